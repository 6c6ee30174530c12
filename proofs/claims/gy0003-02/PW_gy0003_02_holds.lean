import PyProof.Rows.All
import Wide.All
import OpenK.AllK
import Wide.FinOn
import Lean
import PySem.Challenge.RW_gy0003_02
open PySem PySem.W PyProof.Rows PySem.Calls
set_option Elab.async false

namespace Mine02
set_option maxRecDepth 100000 in
set_option maxHeartbeats 8000000 in
open_top hd for PySem.Challenge.rw_gy0003_02
end Mine02

namespace Mine02
local macro_rules | `(tactic| k_memK) => `(tactic| ktr_member)
local macro_rules | `(tactic| walk_at "exec While") => `(tactic| (k_here; k_extra "myWhile"))
def bisGo (ns : List Int) (x : Int) : Nat → Int → Int → Int
  | 0, lo, _ => lo
  | f + 1, lo, hi => if lo < hi then (if ns.getD (Int.fdiv (lo + hi) 2).toNat 0 < x then bisGo ns x f (Int.fdiv (lo + hi) 2 + 1) hi else bisGo ns x f lo (Int.fdiv (lo + hi) 2)) else lo
def bisL (ns : List Int) (x : Int) : Int := bisGo ns x ns.length 0 ns.length
def BisEq (ns : List Int) (x lo hi : Int) : Prop := 0 ≤ lo ∧ lo ≤ hi ∧ hi ≤ ns.length ∧ ∃ f : Nat, hi - lo ≤ f ∧ bisGo ns x f lo hi = bisL ns x
abbrev BisW (ns : List Int) (x lo hi : Int) : Prop := 0 ≤ lo ∧ lo ≤ hi ∧ hi ≤ (ns.length : Int) ∧ BisEq ns x lo hi
theorem bis_start (ns : List Int) (x : Int) : BisW ns x 0 ns.length := ⟨by omega, by omega, by omega, by omega, by omega, by omega, ns.length, by omega, rfl⟩
theorem bis_fd {lo hi : Int} (h0 : 0 ≤ lo) (h1 : lo < hi) : 0 ≤ Int.fdiv (lo + hi) 2 ∧ lo ≤ Int.fdiv (lo + hi) 2 ∧ Int.fdiv (lo + hi) 2 < hi := by
  rw [Int.fdiv_eq_ediv_of_nonneg _ (by decide)]; omega
theorem bis_end {ns : List Int} {x lo hi : Int} (h : BisEq ns x lo hi) (hl : ¬ lo < hi) : lo = bisL ns x := by
  obtain ⟨_, _, _, f, h1, h2⟩ := h
  cases f with
  | zero => exact h2
  | succ f => rw [bisGo, if_neg hl] at h2; exact h2
theorem bis_up {ns : List Int} {x lo hi : Int} (h : BisEq ns x lo hi) (hl : lo < hi) (hx : ns.getD (Int.fdiv (lo + hi) 2).toNat 0 < x) : BisW ns x (Int.fdiv (lo + hi) 2 + 1) hi := by
  obtain ⟨a, b, c, f, h1, h2⟩ := h
  have d := bis_fd a hl
  cases f with
  | zero => omega
  | succ f => rw [bisGo, if_pos hl, if_pos hx] at h2; exact ⟨by omega, by omega, by omega, by omega, by omega, by omega, f, by omega, h2⟩
theorem bis_dn {ns : List Int} {x lo hi : Int} (h : BisEq ns x lo hi) (hl : lo < hi) (hx : ¬ ns.getD (Int.fdiv (lo + hi) 2).toNat 0 < x) : BisW ns x lo (Int.fdiv (lo + hi) 2) := by
  obtain ⟨a, b, c, f, h1, h2⟩ := h
  have d := bis_fd a hl
  cases f with
  | zero => omega
  | succ f => rw [bisGo, if_pos hl, if_neg hx] at h2; exact ⟨by omega, by omega, by omega, by omega, by omega, by omega, f, by omega, h2⟩
theorem bis_mu {lo hi : Int} (h0 : 0 ≤ lo) (hl : lo < hi) : (hi - (Int.fdiv (lo + hi) 2 + 1)).toNat < (hi - lo).toNat ∧ (Int.fdiv (lo + hi) 2 - lo).toNat < (hi - lo).toNat := by
  have d := bis_fd h0 hl
  omega
set_option maxRecDepth 100000 in
set_option maxHeartbeats 8000000 in
theorem bis_c {w : World} {loose : List Str} {mean : ExcName → Option Value} {mg mb : Str → Option Value} {dp un : Nat} {gd : Option (List Code)} {cn : Str} {cs : Scope} {a : Addr} {ccd : Value} {cl : List (Str × Addr)} {outer : List Env} {A₀ : Around} {base h₀ : Heap} {L : Addr} {m : Str → Option Value} {s : Shared} {Q E : Value → Shared → Prop}
   {news : List (Addr × Obj)} {l : Addr} {vs : List Value} {ns : List Int} {n : Nat} {x : Int} {t : Tok} {args : List Value} :
   (Mine02.hd.heap_39 w.params).In h₀ → Below A₀ base outer h₀ → Fr h₀ L s.heap m → News h₀ L s.heap news → Top topProg loose mean mg mb h₀ → cs.kind = .function →
   (args = [.ref l, .int x t] ∨ ∃ u, args = [.ref l, .int x t, .int 0 u, .none]) →
   (l, listOf vs.toArray n) ∈ news → IntsAre vs ns → ns.length < 2 ^ 20 → dp + 1 < recursionLimit → un + 8 < cLine → 
   (∀ t h' tk', Fr h₀ L h' m → News h₀ L h' news → Q (.int (bisL ns x) t) { s with heap := h', toks := tk' }) →
   wpAny (model PySem.Challenge.rw_gy0003_02.row.prog w) (ktrTop dp un gd cn cs L a ccd cl outer) (call (.ref 74) args) Q E s := by
  k_fill
  intro X B F N T hk ha hl hi hn hd hu hret
  have hM := kstMark
  k_with "myWhile" => k_while (fun _ lo hi => BisW ns x lo hi) (fun _ lo hi => (hi - lo).toNat) "lo" "hi"
  k_with "state" => first | exact bis_start _ _ | exact bis_up (by assumption) (by assumption) (by assumption) | exact bis_dn (by assumption) (by assumption) (by assumption)
  k_with "measure" => first | exact (bis_mu (by assumption) (by assumption)).1 | exact (bis_mu (by assumption) (by assumption)).2
  k_with "tree" => exact bis_end (by assumption) (by assumption)
  rcases ha with rfl | ⟨u, rfl⟩
  all_goals (
    refine wpAny_call ?_
    k_dflt (refine' code_def ?k1 ?k2 ?k3 ?k4 ?k5 ?kA ?kF ?kK ?k6 ?k7 ?k8 ?k9 ?kB ?_ ?c2 ?c3 ?c4 ?c5; (case kA => exact rfl); (case kF => exact rfl); (case kK => assumption); (case k1 => k_asm); (case k2 => k_asm); (case k3 => k_asm); (case k4 => k_asm); (case k5 => k_asm); (case k6 => k_is); (case k7 => k_is); (case k8 => ktr_room); (case k9 => first | exact BindsTo.of_eq rfl | exact kp_binds (by k_in) (fun _ => rfl)); (case c5 => decide); (case kB => exact locs rfl); (case c2 => exact rfl); (case c3 => exact rfl); (case c4 => exact rfl); k_whole; intro g' L' h' FG' F' N' B' X' T'; (try dsimp only); (try k_lift B'); (try k_fold))
    k_steps
    all_goals (cb_end hret))
end Mine02

namespace Mine02
theorem updF_upd {d : Addr} {o o' : Obj} : ∀ {l : List (Addr × Obj)} {g : Obj → List (Addr × Obj)}, UpdF d o l g → Upd d o o' l (g o')
  | _, _, .head h => .head h
  | _, _, .tail h r => .tail h (updF_upd r)
theorem updF_mem {d : Addr} {o : Obj} : ∀ {l : List (Addr × Obj)} {g : Obj → List (Addr × Obj)}, UpdF d o l g → (d, o) ∈ l
  | _, _, .head _ => .head _
  | _, _, .tail _ r => .tail _ (updF_mem r)
theorem bisGo_le (ns : List Int) (x : Int) : ∀ (f : Nat) (lo hi : Int), 0 ≤ lo → lo ≤ hi → lo ≤ bisGo ns x f lo hi ∧ bisGo ns x f lo hi ≤ hi
  | 0, lo, hi, _, h => by rw [bisGo]; omega
  | f + 1, lo, hi, h0, h => by
    rw [bisGo]
    by_cases hl : lo < hi
    · rw [if_pos hl]
      have d := bis_fd h0 hl
      split
      · have := bisGo_le ns x f (Int.fdiv (lo + hi) 2 + 1) hi (by omega) (by omega); omega
      · have := bisGo_le ns x f lo (Int.fdiv (lo + hi) 2) (by omega) (by omega); omega
    · rw [if_neg hl]; omega
theorem bisL_le (ns : List Int) (x : Int) : 0 ≤ bisL ns x ∧ bisL ns x ≤ ns.length := bisGo_le ns x _ _ _ (by omega) (by omega)
def insL (ns : List Int) (x : Int) : List Int := ns.take (bisL ns x).toNat ++ x :: ns.drop (bisL ns x).toNat
theorem insL_len (ns : List Int) (x : Int) : (insL ns x).length = ns.length + 1 := by
  have := bisL_le ns x
  simp only [insL, List.length_append, List.length_take, List.length_cons, List.length_drop]; omega
theorem ins_ints {vs : List Value} {ns : List Int} {x : Int} {t : Tok} (h : IntsAre vs ns) : IntsAre (kl_ins vs (bisL ns x) (.int x t)) (insL ns x) := by
  have hb := bisL_le ns x
  have hl := h.length
  unfold kl_ins insL
  rw [if_neg (by omega), Nat.min_eq_left (by omega)]
  exact (h.take _).append (.cons x t (h.drop _))
section
variable {prog : Program} {w : World} {A : Around} {E : Value → Shared → Prop} {s : Shared} {h₀ h : Heap} {L D b : Addr} {m : Str → Option Value} {news news' pre post : List (Addr × Obj)} {vs : List Value} {n : Nat} {g : Obj → List (Addr × Obj)}
theorem insert_my {ns : List Int} {x : Int} {u t : Tok} {Q : Value → Shared → Prop} (F : Fr h₀ L s.heap m) (N : News h₀ L s.heap news) (U : UpdF D (listOf vs.toArray n) news g) (hi : IntsAre vs ns) (hn : ns.length < 2 ^ 20)
    (h : ∀ h' vs' n', IntsAre vs' (insL ns x) → Fr h₀ L h' m → News h₀ L h' (g (listOf vs'.toArray n')) → Q .none { s with heap := h' }) :
    wpAny (model prog w) A (call (.builtin "list.insert") [.ref D, .int (bisL ns x) u, .int x t]) Q E s := by
  have hb := bisL_le ns x
  have hl := hi.length
  exact kl_insert F N (by unfold Builtin.List.listFitsIndex; simp; omega) rfl (by simpa using updF_upd U) (by rw [sizeLine_eq]; simp; omega) (fun h' => h h' _ _ (ins_ints hi))
end

local macro_rules | `(tactic| k_memK) => `(tactic| ktr_member)
local macro_rules | `(tactic| k_updF) => `(tactic| assumption)
local macro_rules | `(tactic| cell_enter) => `(tactic| (refine' code_def ?k1 ?k2 ?k3 ?k4 ?k5 ?kA ?kF ?kK ?k6 ?k7 ?k8 ?k9 ?kB ?_ ?c2 ?c3 ?c4 ?c5; (case kA => exact rfl); (case kF => exact rfl); (case kK => assumption); (case k1 => k_asm); (case k2 => k_asm); (case k3 => k_asm); (case k4 => k_asm); (case k5 => k_asm); (case k6 => k_is); (case k7 => k_is); (case k8 => ktr_room); (case k9 => first | exact BindsTo.of_eq rfl | exact kp_binds (by k_in) (fun _ => rfl)); (case c5 => decide); (case kB => exact locs rfl); (case c2 => exact rfl); (case c3 => exact rfl); (case c4 => exact rfl); k_whole; intro g' L' h' FG' F' N' B' X' T'; (try dsimp only); (try k_lift B'); (try k_fold)))
local macro_rules | `(tactic| walk_at "call ref") => `(tactic| (k_here; k_dflt (refine' bis_c ?X ?B ?F ?N ?T ?kK ?ha ?hl ?hi ?hn ?hd ?hu ?_; (case ha => first | exact .inl rfl | exact .inr ⟨_, rfl⟩); (case X => k_asm); (case B => k_asm); (case F => k_asm); (case N => k_asm); (case T => k_asm); (case kK => first | exact rfl | assumption); (case hl => k_memK); (case hi => assumption); (case hn => omega); (case hd => ktr_room); (case hu => ktr_units); k_whole; intro t9 h9 tk9 F9 N9; (try dsimp only); (try k_fold))))
local macro_rules | `(tactic| walk_at "call builtin:list.insert") => `(tactic| (k_here; k_dflt (refine' insert_my ?F ?N ?U ?hi ?hn ?_; (case F => k_asm); (case N => k_asm); (case U => k_updF); (case hi => assumption); (case hn => omega); k_whole; intro h9 vs9 n9 I9 F9 N9; (try dsimp only); (try k_fold))))

set_option maxRecDepth 100000 in
set_option maxHeartbeats 8000000 in
theorem ins_c {w : World} {loose : List Str} {mean : ExcName → Option Value} {mg mb : Str → Option Value} {dp un : Nat} {gd : Option (List Code)} {cn : Str} {cs : Scope} {a : Addr} {ccd : Value} {cl : List (Str × Addr)} {outer : List Env} {A₀ : Around} {base h₀ : Heap} {L : Addr} {m : Str → Option Value} {s : Shared} {Q E : Value → Shared → Prop}
   {news : List (Addr × Obj)} {g : Obj → List (Addr × Obj)} {l : Addr} {vs : List Value} {ns : List Int} {n : Nat} {x : Int} {t : Tok} :
   (Mine02.hd.heap_39 w.params).In h₀ → Below A₀ base outer h₀ → Fr h₀ L s.heap m → News h₀ L s.heap news → Top topProg loose mean mg mb h₀ → cs.kind = .function →
   UpdF l (listOf vs.toArray n) news g → IntsAre vs ns → ns.length < 2 ^ 20 → dp + 2 < recursionLimit → un + 16 < cLine → 
   (∀ vs' n' h' tk', IntsAre vs' (insL ns x) → Fr h₀ L h' m → News h₀ L h' (g (listOf vs'.toArray n')) → Q .none { s with heap := h', toks := tk' }) →
   wpAny (model PySem.Challenge.rw_gy0003_02.row.prog w) (ktrTop dp un gd cn cs L a ccd cl outer) (call (.ref 65) [.ref l, .int x t]) Q E s := by
  k_fill
  intro X B F N T hk hU hi hn hd hu hret
  have hM := kstMark
  have hl := updF_mem hU
  refine wpAny_call ?_
  k_dflt cell_enter
  k_steps
  all_goals exact hret _ _ _ _ (by assumption) (by assumption) (by assumption)
end Mine02

namespace Mine02
abbrev tup2 (q : Int) (t : Tok) (r : Int) (u : Tok) : Obj := { cls := .type "tuple", data := .seq #[.int q t, .int r u] }
theorem bits_le {x : Int} {k : Nat} (h : x.natAbs < 2 ^ k) : Builtin.Int.intBits x ≤ k := by
  unfold Builtin.Int.intBits
  split
  · omega
  · rename_i h0
    have : x.natAbs ≠ 0 := by simpa using h0
    have := (Nat.log2_lt this).mpr h
    omega
theorem dmod_my {prog : Program} {w : World} {A : Around} {E Q : Value → Shared → Prop} {s : Shared} {h₀ : Heap} {L : Addr} {m : Str → Option Value} {news : List (Addr × Obj)} {x b : Int} {t u : Tok} (F : Fr h₀ L s.heap m) (N : News h₀ L s.heap news) (hb : 0 < b) (hb2 : b < 2 ^ 30)
    (h : ∀ T t u h' tk', Fr h₀ L h' m → News h₀ L h' ((T, tup2 (x.fdiv b) t (x.fmod b) u) :: news) → (∀ p ∈ news, p.1 < T) → Q (.ref T) { s with heap := h', toks := tk' }) :
    wpAny (model prog w) A (call (.builtin "divmod") [.int x t, .int b u]) Q E s :=
  divmod_N F N (by omega) (fun h' F' N' => h _ _ _ _ _ F' N' fun p hp => Heap.lt_size (N p hp).1) (Or.inl (PyProof.noPylong_small (by omega)))
local macro_rules | `(tactic| walk_at "call builtin:divmod") => `(tactic| (k_here; k_dflt (refine' dmod_my ?F ?N ?b ?c ?_; (case F => k_asm); (case N => k_asm); (case b => assumption); (case c => assumption); k_whole); intro T9 t9 u9 h9 tk9 F9 N9 l9))
local macro_rules | `(tactic| cell_enter) => `(tactic| (refine' code_def ?k1 ?k2 ?k3 ?k4 ?k5 ?kA ?kF ?kK ?k6 ?k7 ?k8 ?k9 ?kB ?_ ?c2 ?c3 ?c4 ?c5; (case kA => exact rfl); (case kF => exact rfl); (case kK => assumption); (case k1 => k_asm); (case k2 => k_asm); (case k3 => k_asm); (case k4 => k_asm); (case k5 => k_asm); (case k6 => k_is); (case k7 => k_is); (case k8 => ktr_room); (case k9 => first | exact BindsTo.of_eq rfl | exact kp_binds (by k_in) (fun _ => rfl)); (case c5 => decide); (case kB => exact locs rfl); (case c2 => exact rfl); (case c3 => exact rfl); (case c4 => exact rfl); k_whole; intro g' L' h' FG' F' N' B' X' T'; (try dsimp only); (try k_lift B'); (try k_fold)))
set_option maxRecDepth 100000 in
set_option maxHeartbeats 8000000 in
theorem dv_c {w : World} {loose : List Str} {mean : ExcName → Option Value} {mg mb : Str → Option Value} {dp un : Nat} {gd : Option (List Code)} {cn : Str} {cs : Scope} {a : Addr} {ccd : Value} {cl : List (Str × Addr)} {outer : List Env} {A₀ : Around} {base h₀ : Heap} {L : Addr} {m : Str → Option Value} {s : Shared} {Q E : Value → Shared → Prop} {news : List (Addr × Obj)} {x b n : Int} {tx tb tn : Tok} :
   (Mine02.hd.heap_39 w.params).In h₀ → Below A₀ base outer h₀ → Fr h₀ L s.heap m → News h₀ L s.heap news → Top topProg loose mean mg mb h₀ → cs.kind = .function → 0 ≤ x → x < 2 ^ 62 → 0 < b → b < 2 ^ 30 → 0 ≤ n → dp + 1 < recursionLimit → un + 8 < cLine →
   (∀ T t u h' tk', Fr h₀ L h' m → News h₀ L h' ((T, tup2 (x.fdiv b) t (x.fmod b) u) :: news) → (∀ p ∈ news, p.1 < T) → Q (.ref T) { s with heap := h', toks := tk' }) →
   wpAny (model PySem.Challenge.rw_gy0003_02.row.prog w) (ktrTop dp un gd cn cs L a ccd cl outer) (call (.ref 21) [.int x tx, .int b tb, .int n tn]) Q E s := by
  k_fill
  intro X B F N T hk hx0 hx hb hb2 hn hd hu hret
  have hM := kstMark
  have hbits : (Builtin.Int.intBits x : Int) ≤ 62 := by have := bits_le (x := x) (k := 62) (by omega); omega
  refine wpAny_call ?_
  k_dflt cell_enter
  k_steps
  all_goals exact hret _ _ _ _ _ (by assumption) (by assumption) (by assumption)
end Mine02

namespace Mine02
theorem allLt_ne {d : Addr} {l : List (Addr × Obj)} : AllLt d l → ∀ p ∈ l, p.1 ≠ d := by
  induction l with
  | nil => intro _ p hp; cases hp
  | cons q r ih =>
    intro h p hp
    have h' : @LT.lt Nat _ q.1 d ∧ AllLt d r := h
    rcases List.mem_cons.mp hp with rfl | hp
    · exact Nat.ne_of_lt h'.1
    · exact ih h'.2 p hp
theorem lt_ne {d d' : Addr} {l : List (Addr × Obj)} (h : ∀ p ∈ l, p.1 < d) (hd : @LE.le Nat _ d d') : ∀ p ∈ l, p.1 ≠ d' := fun p hp => Nat.ne_of_lt (Nat.lt_of_lt_of_le (h p hp) hd)
theorem zeros_my {prog : Program} {w : World} {A : Around} {E Q : Value → Shared → Prop} {s : Shared} {h₀ : Heap} {L D : Addr} {m : Str → Option Value} {news : List (Addr × Obj)} {x z : Int} {t u : Tok} {k c : Nat} (F : Fr h₀ L s.heap m) (N : News h₀ L s.heap news) (hD : (D, listOf #[.int z t] c) ∈ news) (hx : x = (k : Int)) (hk : k < 1024)
    (h : ∀ D' h' vs', Fr h₀ L h' m → News h₀ L h' ((D', listOf vs'.toArray 0) :: news) → (∀ p ∈ news, p.1 < D') → IntsAre vs' (List.replicate k z) → Q (.ref D') { s with heap := h' }) :
    wpAny (model prog w) A (binaryOp .Mult (.ref D) (.int x u)) Q E s := by
  subst hx
  refine KM.mul F N (vs := [.int z t]) (ns := [z]) (News.isList N hD) (.cons z t .nil) (by omega) (by omega) (by simp; omega) fun D' h' F' N' l1 i1 _ _ _ _ _ => h D' h' _ F' N' l1 ?_
  have e : ∀ k : Nat, (List.replicate k [z]).flatten = List.replicate k z := by
    intro k
    induction k with
    | zero => rfl
    | succ k ih => rw [List.replicate_succ, List.replicate_succ, List.flatten_cons, ih]; rfl
  rw [e, Int.toNat_natCast] at i1
  exact i1
theorem updF_again {d : Addr} {o o' : Obj} : ∀ {l : List (Addr × Obj)} {g : Obj → List (Addr × Obj)}, UpdF d o l g → UpdF d o' (g o') g
  | _, _, .head h => .head h
  | _, _, .tail h r => .tail h (updF_again r)
theorem updF_other {d x : Addr} {o o' ox : Obj} (hx : x ≠ d) : ∀ {l : List (Addr × Obj)} {g : Obj → List (Addr × Obj)}, UpdF d o l g → (x, ox) ∈ l → (x, ox) ∈ g o'
  | _, _, .head h, hm => by
    rcases List.mem_cons.mp hm with e | hm
    · exact absurd (congrArg Prod.fst e) hx
    · exact .tail _ hm
  | _, _, .tail h r, hm => by
    rcases List.mem_cons.mp hm with e | hm
    · rw [e]; exact .head _
    · exact .tail _ (updF_other hx r hm)
/-! plain: figures in a base of powers of two -/
def digs (N : Nat) : Nat → Int → List Int
  | 0, _ => []
  | k + 1, x => x % 2 ^ N :: digs N k (x / 2 ^ N)
theorem digs_len (N : Nat) : ∀ (k : Nat) (x : Int), (digs N k x).length = k
  | 0, _ => rfl
  | k + 1, x => by rw [digs, List.length_cons, digs_len]
theorem p2_pos (k : Nat) : (0 : Int) < 2 ^ k := Int.pow_pos (by decide)
theorem digs_mod (N : Nat) : ∀ (i : Nat) (x : Int), digs N i (x % 2 ^ (N * i)) = digs N i x
  | 0, _ => rfl
  | i + 1, x => by
    have e : (2 : Int) ^ (N * (i + 1)) = 2 ^ N * 2 ^ (N * i) := by rw [Nat.mul_succ, Nat.add_comm, Int.pow_add]
    rw [digs, digs, e]
    have a : x % (2 ^ N * 2 ^ (N * i)) % 2 ^ N = x % 2 ^ N := Int.emod_emod_of_dvd x (Int.dvd_mul_right _ _)
    have b : x % (2 ^ N * 2 ^ (N * i)) / 2 ^ N = x / 2 ^ N % 2 ^ (N * i) := by
      rw [Int.emod_def, Int.emod_def, Int.mul_assoc, Int.sub_mul_ediv_left _ _ (Int.ne_of_gt (p2_pos N)), Int.ediv_ediv_of_nonneg (Int.le_of_lt (p2_pos N))]
    rw [a, b, digs_mod N i]
theorem digs_add (N : Nat) : ∀ (i j : Nat) (x : Int), digs N (i + j) x = digs N i x ++ digs N j (x / 2 ^ (N * i))
  | 0, j, x => by simp [digs]
  | i + 1, j, x => by
    have e : (2 : Int) ^ (N * (i + 1)) = 2 ^ N * 2 ^ (N * i) := by rw [Nat.mul_succ, Nat.add_comm, Int.pow_add]
    rw [Nat.add_right_comm, digs, digs, digs_add N i j, e, ← Int.ediv_ediv_of_nonneg (Int.le_of_lt (p2_pos N))]; rfl
def setD (ns : List Int) (i : Nat) (ds : List Int) : List Int := ns.take i ++ ds ++ ns.drop (i + ds.length)
theorem setD_len {ns ds : List Int} {i : Nat} (h : i + ds.length ≤ ns.length) : (setD ns i ds).length = ns.length := by
  simp only [setD, List.length_append, List.length_take, List.length_drop]; omega
theorem setD_one {ns : List Int} {i : Nat} {x : Int} (h : i < ns.length) : ns.set i x = setD ns i [x] := by
  rw [List.set_eq_take_append_cons_drop, if_pos h]; simp [setD]
theorem setD_two {ns a b : List Int} {i : Nat} (h : i + a.length + b.length ≤ ns.length) : setD (setD ns i a) (i + a.length) b = setD ns i (a ++ b) := by
  have hi : (ns.take i).length = i := by rw [List.length_take]; omega
  unfold setD
  have e1 : (List.take i ns ++ a ++ List.drop (i + a.length) ns).take (i + a.length) = List.take i ns ++ a := by
    rw [List.take_append_of_le_length (by rw [List.length_append, hi]; omega), List.take_of_length_le (by rw [List.length_append, hi]; omega)]
  have e2 : (List.take i ns ++ a ++ List.drop (i + a.length) ns).drop (i + a.length + b.length) = ns.drop (i + (a ++ b).length) := by
    rw [List.drop_append, List.drop_of_length_le (by rw [List.length_append, hi]; omega), List.nil_append, List.length_append, hi, List.drop_drop, List.length_append]
    congr 1; omega
  rw [e1, e2]; simp [List.append_assoc]
theorem leaf_eq {ns : List Int} {N : Nat} {L x : Int} (h0 : 0 ≤ L) (h1 : L < ns.length) (hx : 0 ≤ x) (hx2 : x < 2 ^ (N * 1)) : ns.set L.toNat x = setD ns L.toNat (digs N 1 x) := by
  rw [Nat.mul_one] at hx2
  rw [digs, digs, Int.emod_eq_of_lt hx hx2]
  exact setD_one (by omega)
theorem node_eq {ns : List Int} {N i j : Nat} {L M x : Int} (h0 : 0 ≤ L) (hM : M = L + i) (h1 : L + i + j ≤ ns.length) : setD (setD ns L.toNat (digs N i (x % 2 ^ (N * i)))) M.toNat (digs N j (x / 2 ^ (N * i))) = setD ns L.toNat (digs N (i + j) x) := by
  have e : M.toNat = L.toNat + (digs N i x).length := by rw [digs_len]; omega
  rw [digs_mod, e, setD_two (by rw [digs_len, digs_len]; omega), ← digs_add]
theorem and_low (n k : Nat) : n &&& (n / 2 ^ k * 2 ^ k) = n / 2 ^ k * 2 ^ k := by
  apply Nat.eq_of_testBit_eq
  intro j
  rw [Nat.testBit_and, Nat.testBit_mul_two_pow, Nat.testBit_div_two_pow]
  by_cases h : k ≤ j
  · have e : k + (j - k) = j := by omega
    have e' : j - k + k = j := by omega
    simp [h, e, e']
  · simp [h]
theorem xor_low {x : Int} {k : Nat} (hx : 0 ≤ x) : Builtin.bitXor x (x / 2 ^ k * 2 ^ k) = x % 2 ^ k := by
  have hp := p2_pos k
  have hy : 0 ≤ x / 2 ^ k * 2 ^ k := Int.mul_nonneg (Int.ediv_nonneg hx (Int.le_of_lt hp)) (Int.le_of_lt hp)
  have hd := Int.emod_def x (2 ^ k)
  rw [Int.mul_comm] at hd
  have e : ((x.toNat / 2 ^ k * 2 ^ k : Nat) : Int) = x / 2 ^ k * 2 ^ k := by
    rw [Int.natCast_mul, Int.natCast_ediv, kbt_cast, Int.toNat_of_nonneg hx]
  have e2 : (x / 2 ^ k * 2 ^ k).toNat = x.toNat / 2 ^ k * 2 ^ k := by rw [← e]; exact Int.toNat_natCast _
  rw [bitXor_and, bitAnd_pp hx hy, e2, and_low, e, hd]
  omega

/-! names for what a ledger bears -/
theorem name_one {h₀ h : Heap} {L D : Addr} {o : Obj} {news : List (Addr × Obj)} {P : Prop} (N : News h₀ L h ((D, o) :: news)) (k : ∀ d : Addr, d = D → P) : P := k _ rfl
theorem name_three {h₀ h : Heap} {L I D D' : Addr} {oI o2 : Obj} {vq : List Value} {cp : Nat} {news : List (Addr × Obj)} {P : Prop} (N : News h₀ L h ((I, oI) :: (D, o2) :: (D', listOf vq.toArray cp) :: news)) (k : ∀ (i d d' : Addr) (v : List Value) (c : Nat), i = I → d = D → d' = D' → v = vq → c = cp → P) : P := k _ _ _ _ _ rfl rfl rfl rfl rfl
theorem name_four {h₀ h : Heap} {L D D' c : Addr} {ot oc : Obj} {vs vs' : List Value} {cp' : Nat} {news : List (Addr × Obj)} {P : Prop} (N : News h₀ L h ((D, listOf vs.toArray 0) :: (D', listOf vs'.toArray cp') :: (30, ot) :: (c, oc) :: news)) (k : ∀ (d d' a : Addr) (v : List Value) (o : Obj), d = D → d' = D' → a = c → v = vs → o = oc → P) : P := k _ _ _ _ _ rfl rfl rfl rfl rfl
def Stop (P : Prop) : Prop := P
theorem Stop.intro {P : Prop} (h : P) : Stop P := h
theorem Stop.out {P : Prop} (h : Stop P) : P := h
end Mine02

namespace Mine02
def InnC (w : World) (f D cA cN cI c' : Addr) (fo : Obj) (q : Str) (N k : Nat) : Prop :=
  ∀ {loose : List Str} {mean : ExcName → Option Value} {mg mb : Str → Option Value} {dp un : Nat} {gd : Option (List Code)} {cn : Str} {cs : Scope} {a : Addr} {ccd : Value} {cl : List (Str × Addr)} {outer : List Env} {A₀ : Around} {base h₀ : Heap} {L : Addr} {m : Str → Option Value} {s : Shared} {Q E : Value → Shared → Prop} {news : List (Addr × Obj)}
   {g : Obj → List (Addr × Obj)} {vs : List Value} {ns : List Int} {cap : Nat} {x lo hi : Int} {tx tl th tN t : Tok} {oA oN oI oc : Obj} {vc : Array Value},
   (Mine02.hd.heap_39 w.params).In h₀ → Below A₀ base outer h₀ → Fr h₀ L s.heap m → News h₀ L s.heap news → Top topProg loose mean mg mb h₀ → cs.kind = .function → CodeHd base 34 30 →
   (f, fo) ∈ news → (cA, oA) ∈ news → (cN, oN) ∈ news → (cI, oI) ∈ news → (c', oc) ∈ news → oA.data = .cell (some (.ref D)) → oN.data = .cell (some (.int (N : Int) tN)) → oI.data = .cell (some (.ref f)) →
   oc.data = .fields vc → vc[1]? = some (.str q t) → f ≠ D → cA ≠ D → cN ≠ D → cI ≠ D → c' ≠ D →
   UpdF D (listOf vs.toArray cap) news g → IntsAre vs ns → hi - lo = (k : Int) → 0 < k → 0 ≤ lo → hi ≤ (ns.length : Int) → ns.length < 1000 → 0 ≤ x → x < 2 ^ (N * k) → dp + 2 * k < recursionLimit → un + 16 * k < cLine →
   (∀ vs' cap' h' tk', IntsAre vs' (setD ns lo.toNat (digs N k x)) → Fr h₀ L h' m → News h₀ L h' (g (listOf vs'.toArray cap')) → Q .none { s with heap := h', toks := tk' }) →
   wpAny (model PySem.Challenge.rw_gy0003_02.row.prog w) (ktrTop dp un gd cn cs L a ccd cl outer) (call (.ref f) [.int x tx, .int lo tl, .int hi th]) Q E s
theorem inn_ih {w : World} {f D cA cN cI c' : Addr} {fo : Obj} {q : Str} {N k j : Nat} (h : ∀ i, i < k → InnC w f D cA cN cI c' fo q N i) (hj : j < k) : InnC w f D cA cN cI c' fo q N j := h j hj
theorem inn_at {w : World} {f D cA cN cI c' : Addr} {fo : Obj} {q : Str} {N j : Nat} (h : ∀ i, InnC w f D cA cN cI c' fo q N i) : InnC w f D cA cN cI c' fo q N j := h j
theorem inn_use {w : World} {h₀ h : Heap} {L f D c' l cI cA cN : Addr} {fo oD oc ol oI oA oN : Obj} {rest : List (Addr × Obj)} {q : Str} {t : Tok} {vc : Array Value} {P : Prop} (N : Nat) (_ : News h₀ L h ((f, fo) :: (c', oc) :: (D, oD) :: (l, ol) :: (cI, oI) :: (cA, oA) :: (cN, oN) :: rest))
   (_ : vc[1]? = some (.str q t)) (hI : ∀ k, InnC w f D cA cN cI c' fo q N k) (h : (∀ k, InnC w f D cA cN cI c' fo q N k) → P) : P := h hI
theorem allLt_lt {d : Addr} {l : List (Addr × Obj)} : AllLt d l → ∀ p ∈ l, p.1 < d := by
  induction l with
  | nil => intro _ p hp; cases hp
  | cons q r ih =>
    intro h p hp
    have h' : @LT.lt Nat _ q.1 d ∧ AllLt d r := h
    rcases List.mem_cons.mp hp with rfl | hp
    · exact h'.1
    · exact ih h'.2 p hp
theorem setD_all {k : Nat} {z : Int} {ds : List Int} (h : ds.length = k) : setD (List.replicate k z) (0 : Int).toNat ds = ds := by
  have e : (0 : Int).toNat = 0 := rfl
  rw [setD, e, List.take_zero, List.nil_append, List.drop_of_length_le (by rw [List.length_replicate]; omega), List.append_nil]
theorem len_my {prog : Program} {w : World} {A : Around} {E Q : Value → Shared → Prop} {s : Shared} {h₀ : Heap} {L D : Addr} {news : List (Addr × Obj)} {vs : List Value} {c n : Nat} (N : News h₀ L s.heap news) (hm : (D, listOf vs.toArray c) ∈ news) (hs : vs.length = n) (hf : n < 2 ^ 62) (h : Q (.int (n : Nat) (s.toks + 1)) { s with toks := s.toks + 1 + 1 }) :
    wpAny (model prog w) A (call (.builtin "len") [.ref D]) Q E s := KM.len_K N hm (by rw [List.size_toArray]; exact hs) hf h
theorem fits_of {a : Int} {k n : Nat} (h : a.natAbs < 2 ^ k) (hk : k + n ≤ 100000) : (Builtin.Int.intBits a : Int) + (n : Int) ≤ 2 ^ 27 := by
  have := bits_le h
  omega
theorem mid_my {prog : Program} {w : World} {A : Around} {E Q : Value → Shared → Prop} {s : Shared} {x y : Int} {t u : Tok} (e : x.fdiv 2 = y) (h : ∀ t tk, Q (.int y t) { s with toks := tk }) : wpAny (model prog w) A (binaryOp .RShift (.int x t) (.int 1 u)) Q E s :=
  rshift_int (by decide) (by have e' : x.fdiv (2 ^ (1 : Int).toNat) = y := e
                             rw [e']; exact h _ _)
theorem rsh_my {prog : Program} {w : World} {A : Around} {E Q : Value → Shared → Prop} {s : Shared} {x n : Int} {t u : Tok} {k : Nat} (hn : n = (k : Int)) (h : ∀ t tk, Q (.int (x / 2 ^ k) t) { s with toks := tk }) : wpAny (model prog w) A (binaryOp .RShift (.int x t) (.int n u)) Q E s := by
  subst hn
  refine rshift_int (by omega) ?_
  rw [Int.toNat_natCast, Int.fdiv_eq_ediv_of_nonneg _ (Int.le_of_lt (p2_pos k))]; exact h _ _
theorem lsh_my {prog : Program} {w : World} {A : Around} {E Q : Value → Shared → Prop} {s : Shared} {x n : Int} {t u : Tok} {k b : Nat} (hn : n = (k : Int)) (h0 : 0 ≤ x) (hb : x < 2 ^ b) (hk : b + k ≤ 100000) (h : ∀ t tk, Q (.int (x * 2 ^ k) t) { s with toks := tk }) : wpAny (model prog w) A (binaryOp .LShift (.int x t) (.int n u)) Q E s := by
  subst hn
  have hb' : x.natAbs < 2 ^ b := by
    have : ((2 ^ b : Nat) : Int) = 2 ^ b := kbt_cast b
    omega
  refine lshift_int (by omega) (fits_of hb' hk) ?_
  rw [Int.toNat_natCast]; exact h _ _
theorem xor_my {prog : Program} {w : World} {A : Around} {E Q : Value → Shared → Prop} {s : Shared} {x : Int} {t u : Tok} {k : Nat} (h0 : 0 ≤ x) (h : ∀ t tk, Q (.int (x % 2 ^ k) t) { s with toks := tk }) : wpAny (model prog w) A (binaryOp .BitXor (.int x t) (.int (x / 2 ^ k * 2 ^ k) u)) Q E s :=
  xor_int (by rw [xor_low h0]; exact h _ _)
theorem mulc_my {prog : Program} {w : World} {A : Around} {E Q : Value → Shared → Prop} {s : Shared} {x : Int} {t u : Tok} {i n : Nat} (e : x = (i : Int)) (hn : n < 1000) (h : ∀ t tk, Q (.int ((n * i : Nat) : Int) t) { s with toks := tk }) : wpAny (model prog w) A (binaryOp .Mult (.int x t) (.int (n : Int) u)) Q E s := by
  subst e
  refine PyProof.Rows.mul_int ?_ (IntMulOk.of_right (PySem.intBits_le_64 (by omega) (by omega)))
  rw [Int.mul_comm, ← Int.natCast_mul]; exact h _ _
theorem up_facts {x : Int} {N i j : Nat} (h0 : 0 ≤ x) (h1 : x < 2 ^ (N * (i + j))) : 0 ≤ x % 2 ^ (N * i) ∧ x % 2 ^ (N * i) < 2 ^ (N * i) ∧ 0 ≤ x / 2 ^ (N * i) ∧ x / 2 ^ (N * i) < 2 ^ (N * j) := by
  have hp := p2_pos (N * i)
  refine ⟨Int.emod_nonneg _ (Int.ne_of_gt hp), Int.emod_lt_of_pos _ hp, Int.ediv_nonneg h0 (Int.le_of_lt hp), ?_⟩
  rw [Nat.mul_add, Int.pow_add, Int.mul_comm] at h1
  exact Int.ediv_lt_of_lt_mul hp h1
section
local macro_rules | `(tactic| k_memK) => `(tactic| first | exact List.Mem.head _ | (refine List.Mem.tail _ ?_; k_memK) | assumption | exact updF_other (by assumption) (by assumption) (by assumption))
local macro_rules | `(tactic| k_mem) => `(tactic| first | exact List.Mem.head _ | (refine List.Mem.tail _ ?_; k_mem) | assumption | exact updF_other (by assumption) (by assumption) (by assumption))
local macro_rules | `(tactic| k_ownIn) => `(tactic| first | assumption | (refine List.Mem.tail _ ?_; k_ownIn))
local macro_rules | `(tactic| k_allIn) => `(tactic| first | (refine List.forall_mem_cons.mpr ⟨by k_memK, ?_⟩; k_allIn) | (intro p hp; k_ownIn))
local macro_rules | `(tactic| walk_at "ite") => `(tactic| (k_here; k_openite; first | (refine ite_pos (by (simp only [beq_iff_eq, bne_iff_ne, decide_eq_true_eq]; omega)) ?_) | (refine ite_neg (by (simp only [beq_iff_eq, bne_iff_ne, decide_eq_true_eq]; omega)) ?_)))
local macro_rules | `(tactic| walk_at "binaryOp RShift int int") => `(tactic| (k_here; (first | (with_reducible refine' rsh_my ?e ?_; (case e => exact Eq.refl (Nat.cast _))) | (with_reducible refine' mid_my ?e ?_; (case e => assumption))); intro t9 tk9))
local macro_rules | `(tactic| walk_at "binaryOp LShift int int") => `(tactic| (k_here; k_dflt (refine' lsh_my ?e ?a ?b ?c ?_; (case e => with_reducible rfl); (case a => assumption); (case b => assumption); (case c => assumption)); intro t9 tk9))
local macro_rules | `(tactic| walk_at "binaryOp BitXor int int") => `(tactic| (k_here; k_dflt (refine' xor_my ?a ?_; (case a => assumption)); intro t9 tk9))
local macro_rules | `(tactic| walk_at "binaryOp Mult int int") => `(tactic| (k_here; k_dflt (refine' mulc_my ?e ?n ?_; (case e => assumption); (case n => omega)); intro t9 tk9))
local macro_rules | `(tactic| walk_at "call builtin:len") => `(tactic| (k_here; k_dflt (refine' len_my ?N ?m ?s ?f ?_; (case N => k_asm); (case m => k_mem); (case s => assumption); (case f => omega))))
local macro_rules | `(tactic| walk_at "call ref") => `(tactic| (k_here; k_dflt (refine' inn_at ?ih ?X ?B ?F ?N ?T ?hk ?hC ?mf ?mA ?mN ?mI ?mc ?dA ?dN ?dI ?dc ?dq ?nf ?nA ?nN ?nI ?nc ?U ?I ?hlen ?hk0 ?hlo ?hhi ?hln ?hx0 ?hx1 ?hd ?hu ?_; (case ih => assumption); (case hx0 => assumption); (case hx1 => assumption); (case hlen => omega); (case X => k_asm); (case B => k_asm); (case F => k_asm); (case N => k_asm); (case T => k_asm); (case hk => first | exact rfl | assumption); (case hC => k_asm); (case mf => k_mem); (case mA => k_mem); (case mN => k_mem); (case mI => k_mem); (case mc => k_mem); (case dA => assumption); (case dN => assumption); (case dI => assumption); (case dc => assumption); (case dq => assumption); (case nf => k_ne); (case nA => k_ne); (case nN => k_ne); (case nI => k_ne); (case nc => k_ne); (case U => k_updF); (case I => assumption); (case hk0 => omega); (case hlo => omega); (case hhi => first | (rw [List.length_replicate]; omega) | omega | (rw [setD_len (by rw [digs_len]; omega)]; omega)); (case hln => first | (rw [List.length_replicate]; omega) | omega | (rw [setD_len (by rw [digs_len]; omega)]; omega)); (case hd => ktr_room); (case hu => ktr_units)); intro vs9 cp9 h9 tk9 i9 F9 N9; (try dsimp only); (try k_fold)))
local macro_rules | `(tactic| walk_at "call ref") => `(tactic| (k_here; k_dflt (refine' inn_ih ?ih ?lt ?X ?B ?F ?N ?T ?hk ?hC ?mf ?mA ?mN ?mI ?mc ?dA ?dN ?dI ?dc ?dq ?nf ?nA ?nN ?nI ?nc ?U ?I ?hlen ?hk0 ?hlo ?hhi ?hln ?hx0 ?hx1 ?hd ?hu ?_; (case ih => assumption); (case hx0 => assumption); (case hx1 => assumption); (case hlen => omega); (case lt => omega); (case X => k_asm); (case B => k_asm); (case F => k_asm); (case N => k_asm); (case T => k_asm); (case hk => first | exact rfl | assumption); (case hC => k_asm); (case mf => k_mem); (case mA => k_mem); (case mN => k_mem); (case mI => k_mem); (case mc => k_mem); (case dA => assumption); (case dN => assumption); (case dI => assumption); (case dc => assumption); (case dq => assumption); (case nf => assumption); (case nA => assumption); (case nN => assumption); (case nI => assumption); (case nc => assumption); (case U => first | assumption | exact updF_again (by assumption)); (case I => assumption); (case hk0 => omega); (case hlo => omega); (case hhi => first | omega | (rw [setD_len (by rw [digs_len]; omega)]; omega)); (case hln => first | omega | (rw [setD_len (by rw [digs_len]; omega)]; omega)); (case hd => ktr_room); (case hu => ktr_units)); intro vs9 cp9 h9 tk9 i9 F9 N9; (try dsimp only); (try k_fold)))
local macro_rules | `(tactic| walk_at "setItem ref int") => `(tactic| (k_here; k_dflt (refine' ksa_set ?k1 ?k2 (updF_upd ?k3) ?k4 ?k5 ?k6 ?k7 ?_; (case k1 => k_asm); (case k2 => k_asm); (case k3 => assumption); (case k4 => assumption); (case k5 => omega); (case k6 => omega); (case k7 => omega)); intro h9 F9 N9 i9 l9 s9))
local macro_rules | `(tactic| k_all) => `(tactic| first | assumption | (refine allLt_ne ?_; first | assumption | exact And.right (by assumption) | exact And.right (And.right (by assumption)) | exact And.right (And.right (And.right (by assumption))) | exact And.right (And.right (And.right (And.right (by assumption)))) | exact And.right (And.right (And.right (And.right (And.right (by assumption)))))) | exact lt_ne (by assumption) (by omega))
local macro_rules | `(tactic| k_updF) => `(tactic| first | assumption | (refine' UpdF.head ?a; (case a => k_all)) | (refine' UpdF.tail ?a ?b; (case a => k_ne); (case b => k_updF)))
local macro_rules | `(tactic| walk_at "binaryOp Mult ref int") => `(tactic| (k_here; k_dflt (refine' zeros_my ?F ?N ?D ?x ?k ?_; (case F => k_asm); (case N => k_asm); (case D => k_mem); (case x => assumption); (case k => omega); k_whole); intro D9 h9 vs9 F9 N9 l9 i9; (try k_lt l9)))
local macro_rules | `(tactic| walk_at "exec FunctionDef") => `(tactic| (k_here; refine Stop.out ?_))
set_option maxRecDepth 100000 in
set_option maxHeartbeats 8000000 in
theorem i2_f {w : World} {loose : List Str} {mean : ExcName → Option Value} {mg mb : Str → Option Value} {dp un : Nat} {gd : Option (List Code)} {cn : Str} {cs : Scope} {a : Addr} {ccd : Value} {cl : List (Str × Addr)} {outer : List Env} {A₀ : Around} {base h₀ : Heap} {L : Addr} {m : Str → Option Value} {s : Shared} {Q E : Value → Shared → Prop} {news : List (Addr × Obj)} {x n : Int} {tx tn : Tok} {k nb : Nat} :
   (Mine02.hd.heap_39 w.params).In h₀ → Below A₀ base outer h₀ → Fr h₀ L s.heap m → News h₀ L s.heap ((30, tabObj #[]) :: news) → Top topProg loose mean mg mb h₀ → cs.kind = .function →
   CodeHd base 34 30 → (∀ p ∈ news, p.1 ≠ 30) → 0 ≤ x → x < 2 ^ 40 → n = (nb : Int) → 1 ≤ n → n ≤ 30 → ((Builtin.Int.intBits x : Int) + n - 1).fdiv n = (k : Int) → k < 100 → x < 2 ^ (nb * k) → (k = 0 ↔ x = 0) → dp + 300 < recursionLimit → un + 3000 < cLine →
   (∀ D vs' cap c' oc vc t h' tk', IntsAre vs' (digs nb k x) → Fr h₀ L h' m → News h₀ L h' ((D, listOf vs'.toArray cap) :: (30, tabObj #[rawInt 32, rawInt 4, .ref c']) :: (c', oc) :: news) → (∀ p ∈ news, p.1 < D) → @LT.lt Nat _ 30 D → @LT.lt Nat _ D c' → oc.data = .fields vc → vc[1]? = some (.str (Str.ofString "_int2digits.<locals>.inner") t) → Q (.ref D) { s with heap := h', toks := tk' }) →
   wpAny (model PySem.Challenge.rw_gy0003_02.row.prog w) (ktrTop dp un gd cn cs L a ccd cl outer) (call (.ref 35) [.int x tx, .int n tn]) Q E s := by
  k_fill
  intro X B F N T hk hC h30 hx0 hx hnN hn hn2 hkk hk2 hxk hk0 hd hu hret
  subst hnN
  have hM := kstMark
  have hbits : (Builtin.Int.intBits x : Int) ≤ 40 := by have := bits_le (x := x) (k := 40) (by omega); omega
  refine wpAny_call ?_
  k_dflt (refine' code_defC ?k1 ?k2 ?k3 ?k4 ?k5 ?kA ?kF ?kK ?k6 ?k7 ?k8 ?k9 ?kB ?kD ?_ ?c2 ?c3 ?c4; (case kA => exact rfl); (case kF => exact rfl); (case kK => assumption); (case k1 => k_asm); (case k2 => k_asm); (case k3 => k_asm); (case k4 => k_asm); (case k5 => k_asm); (case k6 => k_is); (case k7 => k_is); (case k8 => ktr_room); (case k9 => first | exact BindsTo.of_eq rfl | exact kp_binds (by k_in) (fun _ => rfl)); (case kB => exact rfl); (case kD => decide +kernel); (case c2 => exact rfl); (case c3 => exact rfl); (case c4 => exact rfl); k_whole; intro g' L' h' tk' cells' FG' F' N' Y' B' X' T' l1; k_cells Y'; (try simp only [List.cons_append, List.nil_append] at N'); (try dsimp only); (try k_lift B'); (try k_fold))
  have l30 : @LT.lt Nat _ 30 L' := l1 _ (.head _)
  have l1n : ∀ p ∈ news, p.1 < L' := fun p hp => l1 p (.tail _ hp)
  k_steps
  all_goals (refine Stop.intro ?_)
  all_goals k_dflt (refine' nestDef_K ?d0 ?k0 ?a0 ?_; (case d0 => exact rfl); (case k0 => exact rfl); (case a0 => exact rfl))
  all_goals k_dflt (refine' nest_K ?xF ?xN ?xT ?xC ?xcd ?xU ?xt ?xn ?xcl ?_; (case xF => k_asm); (case xN => k_asm); (case xT => k_asm); (case xcd => exact rfl); (case xC => kn_code); (case xU => k_updF); (case xt => kn_triples); (case xn => kn_among); (case xcl => exact rfl); k_whole)
  intro fI cI ocI vcI tI ctI dcI hI tkI FI NI dI1 dI2 lI1 lI2
  dsimp only at NI
  k_lt lI1
  k_lt2 lI2
  refine inn_use (w := w) nb NI dI2 ?_ ?_
  · intro k
    induction k using Nat.strongRecOn with
    | ind k IH =>
    unfold InnC
    intro loose2 mean2 mg2 mb2 dp2 un2 gd2 cn2 cs2 a2 ccd2 cl2 outer2 A2 base2 h2 L2 m2 s2 Q2 E2 news2 g2 vs2 ns2 cap2 x2 lo hi tx2 tl2 th2 tN2 t2 oA2 oN2 oI2 oc2 vc2 X2 B2 F2 N2 T2 hk2' hC2 mf mA mN mI mc dA dN dI dc dq nf nA nN nI nc U2 I2 hlen hk0 hlo hhi hlen2 hx0 hx1 hd2 hu2 ret2
    refine wpAny_call ?_
    k_dflt (refine' code_nest ?k1 ?k2 ?k3 ?k4 ?k5 ?kA ?kF ?kK ?k6 ?k7 ?k8 ?k9 ?kB ?_ ?c2 ?c3 ?c4 ?c5; (case kA => exact rfl); (case kF => exact rfl); (case kK => assumption); (case k1 => exact B2); (case k2 => exact F2); (case k3 => exact X2); (case k4 => exact N2); (case k5 => exact T2); (case k6 => exact mf); (case k7 => exact codeRec_news N2 mc dc dq); (case k8 => ktr_room); (case k9 => exact BindsTo.of_eq rfl); (case c5 => decide); (case kB => exact locs rfl); (case c2 => exact rfl); (case c3 => exact rfl); (case c4 => exact rfl); k_whole; intro g' L' h' FG' F' N' B' X' T'; (try dsimp only); (try k_lift B'); (try k_fold))
    by_cases hone : lo + 1 = hi
    · obtain rfl : k = 1 := by omega
      k_steps
      refine ret2 _ _ _ _ ?_ (by assumption) (by assumption)
      rw [← leaf_eq hlo (by omega) hx0 hx1]
      assumption
    · obtain ⟨i, j, hij, hi0, hj0, hmid⟩ : ∃ i j : Nat, k = i + j ∧ 0 < i ∧ 0 < j ∧ (lo + hi).fdiv 2 = lo + (i : Int) := by
        refine ⟨k / 2, k - k / 2, by omega, by omega, by omega, ?_⟩
        rw [Int.fdiv_eq_ediv_of_nonneg _ (by decide)]; omega
      subst hij
      have hsh : lo + (i : Int) - lo = (i : Int) := by omega
      obtain ⟨hlw0, hlw1, hup0, hup1⟩ := up_facts hx0 hx1
      have hsz1 : nb * j + nb * i ≤ 100000 := by
        have h1 : nb * (j + i) ≤ 30 * (j + i) := Nat.mul_le_mul_right _ (by omega)
        have h2 : j + i ≤ 1000 := by omega
        rw [← Nat.mul_add]; omega
      k_steps
      refine ret2 _ _ _ _ ?_ (by assumption) (by assumption)
      rw [← node_eq (M := lo + (i : Int)) hlo rfl (by omega)]
      assumption
  · intro hInn
    k_dflt (refine' storeX_C ?yF ?yN ?yc ?yU ?yd ?_ ?ya ?yb; (case ya => rfl); (case yb => rfl); (case yF => k_asm); (case yN => k_asm); (case yc => rfl); (case yU => k_updF); (case yd => k_asm); k_whole)
    intro hJ oJ FJ NJ dJ
    (try dsimp only at NJ)
    have hlenJ := IntsAre.length ‹IntsAre _ (List.replicate k 0)›
    rw [List.length_replicate] at hlenJ
    by_cases hx00 : x = 0
    · obtain rfl : k = 0 := hk0.mpr hx00
      k_steps
      refine' hret _ _ _ cI ocI _ tI _ _ ?e1 (by assumption) (cb_drop (by assumption) ?e2) ?e3 ?e4 ?e5 dI1 dI2
      case e2 => k_allIn
      case e1 => assumption
      case e3 => exact allLt_lt (And.right (And.right (And.right (And.right (And.right (by assumption))))))
      case e4 => omega
      case e5 => omega
    · have hkpos : 0 < k := by omega
      k_steps
      refine' hret _ _ _ cI ocI _ tI _ _ ?e1 (by assumption) (cb_drop (by assumption) ?e2) ?e3 ?e4 ?e5 dI1 dI2
      case e2 => k_allIn
      case e1 =>
        rw [← setD_all (k := k) (z := 0) (digs_len nb k x)]
        assumption
      case e3 => exact allLt_lt (And.right (And.right (And.right (And.right (And.right (by assumption))))))
      case e4 => omega
      case e5 => omega
end
end Mine02

namespace Mine02
theorem inn_useB {w : World} {h₀ h : Heap} {L f D c' l cI cA cN : Addr} {fo oD ol oI oA oN : Obj} {rest : List (Addr × Obj)} {q : Str} {t : Tok} {vc : Array Value} {P : Prop} (N : Nat) (_ : News h₀ L h ((f, fo) :: (D, oD) :: (l, ol) :: (cI, oI) :: (cA, oA) :: (cN, oN) :: rest))
   (_ : vc[1]? = some (.str q t)) (hI : ∀ k, InnC w f D cA cN cI c' fo q N k) (h : (∀ k, InnC w f D cA cN cI c' fo q N k) → P) : P := h hI
section
local macro_rules | `(tactic| k_memK) => `(tactic| first | exact List.Mem.head _ | (refine List.Mem.tail _ ?_; k_memK) | assumption | exact updF_other (by assumption) (by assumption) (by assumption))
local macro_rules | `(tactic| k_mem) => `(tactic| first | exact List.Mem.head _ | (refine List.Mem.tail _ ?_; k_mem) | assumption | exact updF_other (by assumption) (by assumption) (by assumption))
local macro_rules | `(tactic| k_ownIn) => `(tactic| first | assumption | (refine List.Mem.tail _ ?_; k_ownIn))
local macro_rules | `(tactic| k_allIn) => `(tactic| first | (refine List.forall_mem_cons.mpr ⟨by k_memK, ?_⟩; k_allIn) | (intro p hp; k_ownIn))
local macro_rules | `(tactic| walk_at "ite") => `(tactic| (k_here; k_openite; first | (refine ite_pos (by (simp only [beq_iff_eq, bne_iff_ne, decide_eq_true_eq]; omega)) ?_) | (refine ite_neg (by (simp only [beq_iff_eq, bne_iff_ne, decide_eq_true_eq]; omega)) ?_)))
local macro_rules | `(tactic| walk_at "binaryOp RShift int int") => `(tactic| (k_here; (first | (with_reducible refine' rsh_my ?e ?_; (case e => exact Eq.refl (Nat.cast _))) | (with_reducible refine' mid_my ?e ?_; (case e => assumption))); intro t9 tk9))
local macro_rules | `(tactic| walk_at "binaryOp LShift int int") => `(tactic| (k_here; k_dflt (refine' lsh_my ?e ?a ?b ?c ?_; (case e => with_reducible rfl); (case a => assumption); (case b => assumption); (case c => assumption)); intro t9 tk9))
local macro_rules | `(tactic| walk_at "binaryOp BitXor int int") => `(tactic| (k_here; k_dflt (refine' xor_my ?a ?_; (case a => assumption)); intro t9 tk9))
local macro_rules | `(tactic| walk_at "binaryOp Mult int int") => `(tactic| (k_here; k_dflt (refine' mulc_my ?e ?n ?_; (case e => assumption); (case n => omega)); intro t9 tk9))
local macro_rules | `(tactic| walk_at "call builtin:len") => `(tactic| (k_here; k_dflt (refine' len_my ?N ?m ?s ?f ?_; (case N => k_asm); (case m => k_mem); (case s => assumption); (case f => omega))))
local macro_rules | `(tactic| walk_at "call ref") => `(tactic| (k_here; k_dflt (refine' inn_at ?ih ?X ?B ?F ?N ?T ?hk ?hC ?mf ?mA ?mN ?mI ?mc ?dA ?dN ?dI ?dc ?dq ?nf ?nA ?nN ?nI ?nc ?U ?I ?hlen ?hk0 ?hlo ?hhi ?hln ?hx0 ?hx1 ?hd ?hu ?_; (case ih => assumption); (case hx0 => assumption); (case hx1 => assumption); (case hlen => omega); (case X => k_asm); (case B => k_asm); (case F => k_asm); (case N => k_asm); (case T => k_asm); (case hk => first | exact rfl | assumption); (case hC => k_asm); (case mf => k_mem); (case mA => k_mem); (case mN => k_mem); (case mI => k_mem); (case mc => k_mem); (case dA => assumption); (case dN => assumption); (case dI => assumption); (case dc => assumption); (case dq => assumption); (case nf => k_ne); (case nA => k_ne); (case nN => k_ne); (case nI => k_ne); (case nc => k_ne); (case U => k_updF); (case I => assumption); (case hk0 => omega); (case hlo => omega); (case hhi => first | (rw [List.length_replicate]; omega) | omega | (rw [setD_len (by rw [digs_len]; omega)]; omega)); (case hln => first | (rw [List.length_replicate]; omega) | omega | (rw [setD_len (by rw [digs_len]; omega)]; omega)); (case hd => ktr_room); (case hu => ktr_units)); intro vs9 cp9 h9 tk9 i9 F9 N9; (try dsimp only); (try k_fold)))
local macro_rules | `(tactic| walk_at "call ref") => `(tactic| (k_here; k_dflt (refine' inn_ih ?ih ?lt ?X ?B ?F ?N ?T ?hk ?hC ?mf ?mA ?mN ?mI ?mc ?dA ?dN ?dI ?dc ?dq ?nf ?nA ?nN ?nI ?nc ?U ?I ?hlen ?hk0 ?hlo ?hhi ?hln ?hx0 ?hx1 ?hd ?hu ?_; (case ih => assumption); (case hx0 => assumption); (case hx1 => assumption); (case hlen => omega); (case lt => omega); (case X => k_asm); (case B => k_asm); (case F => k_asm); (case N => k_asm); (case T => k_asm); (case hk => first | exact rfl | assumption); (case hC => k_asm); (case mf => k_mem); (case mA => k_mem); (case mN => k_mem); (case mI => k_mem); (case mc => k_mem); (case dA => assumption); (case dN => assumption); (case dI => assumption); (case dc => assumption); (case dq => assumption); (case nf => assumption); (case nA => assumption); (case nN => assumption); (case nI => assumption); (case nc => assumption); (case U => first | assumption | exact updF_again (by assumption)); (case I => assumption); (case hk0 => omega); (case hlo => omega); (case hhi => first | omega | (rw [setD_len (by rw [digs_len]; omega)]; omega)); (case hln => first | omega | (rw [setD_len (by rw [digs_len]; omega)]; omega)); (case hd => ktr_room); (case hu => ktr_units)); intro vs9 cp9 h9 tk9 i9 F9 N9; (try dsimp only); (try k_fold)))
local macro_rules | `(tactic| walk_at "setItem ref int") => `(tactic| (k_here; k_dflt (refine' ksa_set ?k1 ?k2 (updF_upd ?k3) ?k4 ?k5 ?k6 ?k7 ?_; (case k1 => k_asm); (case k2 => k_asm); (case k3 => assumption); (case k4 => assumption); (case k5 => omega); (case k6 => omega); (case k7 => omega)); intro h9 F9 N9 i9 l9 s9))
local macro_rules | `(tactic| k_all) => `(tactic| first | assumption | (refine allLt_ne ?_; first | assumption | exact And.right (by assumption) | exact And.right (And.right (by assumption)) | exact And.right (And.right (And.right (by assumption))) | exact And.right (And.right (And.right (And.right (by assumption)))) | exact And.right (And.right (And.right (And.right (And.right (by assumption)))))) | exact lt_ne (by assumption) (by omega))
local macro_rules | `(tactic| k_updF) => `(tactic| first | assumption | (refine' UpdF.head ?a; (case a => k_all)) | (refine' UpdF.tail ?a ?b; (case a => k_ne); (case b => k_updF)))
local macro_rules | `(tactic| walk_at "binaryOp Mult ref int") => `(tactic| (k_here; k_dflt (refine' zeros_my ?F ?N ?D ?x ?k ?_; (case F => k_asm); (case N => k_asm); (case D => k_mem); (case x => assumption); (case k => omega); k_whole); intro D9 h9 vs9 F9 N9 l9 i9; (try k_lt l9)))
local macro_rules | `(tactic| walk_at "exec FunctionDef") => `(tactic| (k_here; refine Stop.out ?_))
set_option maxRecDepth 100000 in
set_option maxHeartbeats 8000000 in
theorem i2_b {w : World} {loose : List Str} {mean : ExcName → Option Value} {mg mb : Str → Option Value} {dp un : Nat} {gd : Option (List Code)} {cn : Str} {cs : Scope} {a : Addr} {ccd : Value} {cl : List (Str × Addr)} {outer : List Env} {A₀ : Around} {base h₀ : Heap} {L : Addr} {m : Str → Option Value} {s : Shared} {Q E : Value → Shared → Prop} {news : List (Addr × Obj)} {x n : Int} {tx tn : Tok} {k nb : Nat} {c' : Addr} {oc : Obj} {vc : Array Value} {tq : Tok} :
   (Mine02.hd.heap_39 w.params).In h₀ → Below A₀ base outer h₀ → Fr h₀ L s.heap m → News h₀ L s.heap news → Top topProg loose mean mg mb h₀ → cs.kind = .function →
   CodeHd base 34 30 → (30, tabObj #[rawInt 32, rawInt 4, .ref c']) ∈ news → (c', oc) ∈ news → oc.data = .fields vc → vc[1]? = some (.str (Str.ofString "_int2digits.<locals>.inner") tq) → 0 ≤ x → x < 2 ^ 40 → n = (nb : Int) → 1 ≤ n → n ≤ 30 → ((Builtin.Int.intBits x : Int) + n - 1).fdiv n = (k : Int) → k < 100 → x < 2 ^ (nb * k) → (k = 0 ↔ x = 0) → dp + 300 < recursionLimit → un + 3000 < cLine →
   (∀ D vs' cap h' tk', IntsAre vs' (digs nb k x) → Fr h₀ L h' m → News h₀ L h' ((D, listOf vs'.toArray cap) :: news) → (∀ p ∈ news, p.1 < D) → Q (.ref D) { s with heap := h', toks := tk' }) →
   wpAny (model PySem.Challenge.rw_gy0003_02.row.prog w) (ktrTop dp un gd cn cs L a ccd cl outer) (call (.ref 35) [.int x tx, .int n tn]) Q E s := by
  k_fill
  intro X B F N T hk hC h30 hcm hcd hcq hx0 hx hnN hn hn2 hkk hk2 hxk hk0 hd hu hret
  subst hnN
  have hM := kstMark
  have hbits : (Builtin.Int.intBits x : Int) ≤ 40 := by have := bits_le (x := x) (k := 40) (by omega); omega
  refine wpAny_call ?_
  k_dflt (refine' code_defC ?k1 ?k2 ?k3 ?k4 ?k5 ?kA ?kF ?kK ?k6 ?k7 ?k8 ?k9 ?kB ?kD ?_ ?c2 ?c3 ?c4; (case kA => exact rfl); (case kF => exact rfl); (case kK => assumption); (case k1 => k_asm); (case k2 => k_asm); (case k3 => k_asm); (case k4 => k_asm); (case k5 => k_asm); (case k6 => k_is); (case k7 => k_is); (case k8 => ktr_room); (case k9 => first | exact BindsTo.of_eq rfl | exact kp_binds (by k_in) (fun _ => rfl)); (case kB => exact rfl); (case kD => decide +kernel); (case c2 => exact rfl); (case c3 => exact rfl); (case c4 => exact rfl); k_whole; intro g' L' h' tk' cells' FG' F' N' Y' B' X' T' l1; k_cells Y'; (try simp only [List.cons_append, List.nil_append] at N'); (try dsimp only); (try k_lift B'); (try k_fold))
  have l30 : @LT.lt Nat _ 30 L' := l1 _ h30
  have lc : @LT.lt Nat _ c' L' := l1 _ hcm
  k_steps
  all_goals (refine Stop.intro ?_)
  all_goals k_dflt (refine' nestDef_K ?d0 ?k0 ?a0 ?_; (case d0 => exact rfl); (case k0 => exact rfl); (case a0 => exact rfl))
  all_goals k_dflt (refine' nestHit_K ?xF ?xN ?xT ?xC ?xcd ?xm ?xt ?xn ?xcl ?_; (case xF => k_asm); (case xN => k_asm); (case xT => k_asm); (case xcd => exact rfl); (case xC => kn_code); (case xm => k_mem); (case xt => kn_triples); (case xn => kn_hit); (case xcl => exact rfl); k_whole)
  intro fI ctI dcI hI tkI FI NI lI1
  (try dsimp only at NI)
  k_lt lI1
  refine inn_useB (w := w) nb NI (c' := c') hcq ?_ ?_
  · intro k
    induction k using Nat.strongRecOn with
    | ind k IH =>
    unfold InnC
    intro loose2 mean2 mg2 mb2 dp2 un2 gd2 cn2 cs2 a2 ccd2 cl2 outer2 A2 base2 h2 L2 m2 s2 Q2 E2 news2 g2 vs2 ns2 cap2 x2 lo hi tx2 tl2 th2 tN2 t2 oA2 oN2 oI2 oc2 vc2 X2 B2 F2 N2 T2 hk2' hC2 mf mA mN mI mc dA dN dI dc dq nf nA nN nI nc U2 I2 hlen hk0 hlo hhi hlen2 hx0 hx1 hd2 hu2 ret2
    refine wpAny_call ?_
    k_dflt (refine' code_nest ?k1 ?k2 ?k3 ?k4 ?k5 ?kA ?kF ?kK ?k6 ?k7 ?k8 ?k9 ?kB ?_ ?c2 ?c3 ?c4 ?c5; (case kA => exact rfl); (case kF => exact rfl); (case kK => assumption); (case k1 => exact B2); (case k2 => exact F2); (case k3 => exact X2); (case k4 => exact N2); (case k5 => exact T2); (case k6 => exact mf); (case k7 => exact codeRec_news N2 mc dc dq); (case k8 => ktr_room); (case k9 => exact BindsTo.of_eq rfl); (case c5 => decide); (case kB => exact locs rfl); (case c2 => exact rfl); (case c3 => exact rfl); (case c4 => exact rfl); k_whole; intro g' L' h' FG' F' N' B' X' T'; (try dsimp only); (try k_lift B'); (try k_fold))
    by_cases hone : lo + 1 = hi
    · obtain rfl : k = 1 := by omega
      k_steps
      refine ret2 _ _ _ _ ?_ (by assumption) (by assumption)
      rw [← leaf_eq hlo (by omega) hx0 hx1]
      assumption
    · obtain ⟨i, j, hij, hi0, hj0, hmid⟩ : ∃ i j : Nat, k = i + j ∧ 0 < i ∧ 0 < j ∧ (lo + hi).fdiv 2 = lo + (i : Int) := by
        refine ⟨k / 2, k - k / 2, by omega, by omega, by omega, ?_⟩
        rw [Int.fdiv_eq_ediv_of_nonneg _ (by decide)]; omega
      subst hij
      have hsh : lo + (i : Int) - lo = (i : Int) := by omega
      obtain ⟨hlw0, hlw1, hup0, hup1⟩ := up_facts hx0 hx1
      have hsz1 : nb * j + nb * i ≤ 100000 := by
        have h1 : nb * (j + i) ≤ 30 * (j + i) := Nat.mul_le_mul_right _ (by omega)
        have h2 : j + i ≤ 1000 := by omega
        rw [← Nat.mul_add]; omega
      k_steps
      refine ret2 _ _ _ _ ?_ (by assumption) (by assumption)
      rw [← node_eq (M := lo + (i : Int)) hlo rfl (by omega)]
      assumption
  · intro hInn
    k_dflt (refine' storeX_C ?yF ?yN ?yc ?yU ?yd ?_ ?ya ?yb; (case ya => rfl); (case yb => rfl); (case yF => k_asm); (case yN => k_asm); (case yc => rfl); (case yU => k_updF); (case yd => k_asm); k_whole)
    intro hJ oJ FJ NJ dJ
    (try dsimp only at NJ)
    have hlenJ := IntsAre.length ‹IntsAre _ (List.replicate k 0)›
    rw [List.length_replicate] at hlenJ
    by_cases hx00 : x = 0
    · obtain rfl : k = 0 := hk0.mpr hx00
      k_steps
      refine' hret _ _ _ _ _ ?e1 (by assumption) (cb_drop (by assumption) ?e2) ?e3
      case e2 => k_allIn
      case e1 => assumption
      case e3 => exact allLt_lt (And.right (And.right (And.right (And.right (by assumption)))))
    · have hkpos : 0 < k := by omega
      k_steps
      refine' hret _ _ _ _ _ ?e1 (by assumption) (cb_drop (by assumption) ?e2) ?e3
      case e2 => k_allIn
      case e1 =>
        rw [← setD_all (k := k) (z := 0) (digs_len nb k x)]
        assumption
      case e3 => exact allLt_lt (And.right (And.right (And.right (And.right (by assumption)))))
end
end Mine02

namespace Mine02
def Bel (b : Nat) (ns : List Int) : Prop := ∀ y ∈ ns, 0 ≤ y ∧ y < 2 ^ b
def InnD (w : World) (f D cA cN cI c' : Addr) (fo : Obj) (q : Str) (N k : Nat) : Prop :=
  ∀ {loose : List Str} {mean : ExcName → Option Value} {mg mb : Str → Option Value} {dp un : Nat} {gd : Option (List Code)} {cn : Str} {cs : Scope} {a : Addr} {ccd : Value} {cl : List (Str × Addr)} {outer : List Env} {A₀ : Around} {base h₀ : Heap} {L : Addr} {m : Str → Option Value} {s : Shared} {Q E : Value → Shared → Prop} {news : List (Addr × Obj)}
   {vs : List Value} {ns : List Int} {cap : Nat} {lo hi : Int} {tl th tN t : Tok} {oA oN oI oc : Obj} {vc : Array Value},
   (Mine02.hd.heap_39 w.params).In h₀ → Below A₀ base outer h₀ → Fr h₀ L s.heap m → News h₀ L s.heap news → Top topProg loose mean mg mb h₀ → cs.kind = .function → CodeHd base 41 37 →
   (f, fo) ∈ news → (cA, oA) ∈ news → (cN, oN) ∈ news → (cI, oI) ∈ news → (c', oc) ∈ news → oA.data = .cell (some (.ref D)) → oN.data = .cell (some (.int (N : Int) tN)) → oI.data = .cell (some (.ref f)) →
   oc.data = .fields vc → vc[1]? = some (.str q t) → (D, listOf vs.toArray cap) ∈ news → IntsAre vs ns → Bel N ns → N ≤ 30 → hi - lo = (k : Int) → 0 < k → 0 ≤ lo → hi ≤ (ns.length : Int) → ns.length < 1000 → dp + 2 * k < recursionLimit → un + 16 * k < cLine →
   (∀ v t' h' tk', 0 ≤ v → v < 2 ^ (N * k) → Fr h₀ L h' m → News h₀ L h' news → Q (.int v t') { s with heap := h', toks := tk' }) →
   wpAny (model PySem.Challenge.rw_gy0003_02.row.prog w) (ktrTop dp un gd cn cs L a ccd cl outer) (call (.ref f) [.int lo tl, .int hi th]) Q E s
theorem dnn_ih {w : World} {f D cA cN cI c' : Addr} {fo : Obj} {q : Str} {N k j : Nat} (h : ∀ i, i < k → InnD w f D cA cN cI c' fo q N i) (hj : j < k) : InnD w f D cA cN cI c' fo q N j := h j hj
theorem dnn_at {w : World} {f D cA cN cI c' : Addr} {fo : Obj} {q : Str} {N j : Nat} (h : ∀ i, InnD w f D cA cN cI c' fo q N i) : InnD w f D cA cN cI c' fo q N j := h j
theorem dnn_use {w : World} {h₀ h : Heap} {L f D c' cI cA cN : Addr} {fo oc oI oA oN : Obj} {rest : List (Addr × Obj)} {q : Str} {t : Tok} {vc : Array Value} {P : Prop} (N : Nat) (D : Addr) (_ : News h₀ L h ((f, fo) :: (c', oc) :: (cI, oI) :: (cN, oN) :: (cA, oA) :: rest))
   (_ : vc[1]? = some (.str q t)) (hI : ∀ k, InnD w f D cA cN cI c' fo q N k) (h : (∀ k, InnD w f D cA cN cI c' fo q N k) → P) : P := h hI
theorem dnn_useB {w : World} {h₀ h : Heap} {L f D c' cI cA cN : Addr} {fo oI oA oN : Obj} {rest : List (Addr × Obj)} {q : Str} {t : Tok} {vc : Array Value} {P : Prop} (N : Nat) (D : Addr) (_ : News h₀ L h ((f, fo) :: (cI, oI) :: (cN, oN) :: (cA, oA) :: rest))
   (_ : vc[1]? = some (.str q t)) (hI : ∀ k, InnD w f D cA cN cI c' fo q N k) (h : (∀ k, InnD w f D cA cN cI c' fo q N k) → P) : P := h hI
theorem bel_at {b : Nat} {ns : List Int} (h : Bel b ns) {i : Nat} (hi : i < ns.length) : 0 ≤ ns.getD i 0 ∧ ns.getD i 0 < 2 ^ b := by
  rw [List.getD_eq_getElem?_getD, List.getElem?_eq_getElem hi]
  exact h _ (List.getElem_mem hi)
theorem glue {N i j : Nat} {u v : Int} (hu0 : 0 ≤ u) (hu : u < 2 ^ (N * j)) (hv0 : 0 ≤ v) (hv : v < 2 ^ (N * i)) : 0 ≤ u * 2 ^ (N * i) + v ∧ u * 2 ^ (N * i) + v < 2 ^ (N * (i + j)) := by
  have hp := p2_pos (N * i)
  have h1 : 0 ≤ u * 2 ^ (N * i) := Int.mul_nonneg hu0 (Int.le_of_lt hp)
  have h2 : (u + 1) * 2 ^ (N * i) ≤ 2 ^ (N * j) * 2 ^ (N * i) := Int.mul_le_mul_of_nonneg_right (by omega) (Int.le_of_lt hp)
  rw [Int.add_mul, Int.one_mul] at h2
  refine ⟨by omega, ?_⟩
  rw [Nat.mul_add, Int.pow_add, Int.mul_comm (2 ^ (N * i)) (2 ^ (N * j))]
  omega
theorem truthy_my {prog : Program} {w : World} {A : Around} {E : Value → Shared → Prop} {s : Shared} {h₀ : Heap} {L D : Addr} {news : List (Addr × Obj)} {vs : List Value} {c n : Nat} {Q : Bool → Shared → Prop} (N : News h₀ L s.heap news) (hm : (D, listOf vs.toArray c) ∈ news) (hs : vs.length = n) (hf : n < 2 ^ 62) (h : ∀ tk, Q (decide (0 < n)) { s with toks := tk }) :
    wpAny (model prog w) A (truthy (.ref D)) Q E s := by
  refine kgr_truthy N hm rfl rfl (by omega) ?_
  have e : decide (0 < n) = !vs.isEmpty := by
    cases vs with
    | nil => simp at hs; subst hs; rfl
    | cons a r => simp at hs; subst hs; simp
  rw [← e]; exact h _
section
local macro_rules | `(tactic| k_memK) => `(tactic| first | exact List.Mem.head _ | (refine List.Mem.tail _ ?_; k_memK) | assumption)
local macro_rules | `(tactic| k_mem) => `(tactic| first | exact List.Mem.head _ | (refine List.Mem.tail _ ?_; k_mem) | assumption)
local macro_rules | `(tactic| k_all) => `(tactic| first | assumption | (refine allLt_ne ?_; first | assumption | exact And.right (by assumption) | exact And.right (And.right (by assumption)) | exact And.right (And.right (And.right (by assumption))) | exact And.right (And.right (And.right (And.right (by assumption)))) | exact And.right (And.right (And.right (And.right (And.right (by assumption)))))) | exact lt_ne (by assumption) (by omega))
local macro_rules | `(tactic| k_updF) => `(tactic| first | assumption | (refine' UpdF.head ?a; (case a => k_all)) | (refine' UpdF.tail ?a ?b; (case a => k_ne); (case b => k_updF)))
local macro_rules | `(tactic| k_ownIn) => `(tactic| first | assumption | (refine List.Mem.tail _ ?_; k_ownIn))
local macro_rules | `(tactic| k_allIn) => `(tactic| first | (refine List.forall_mem_cons.mpr ⟨by k_memK, ?_⟩; k_allIn) | (intro p hp; k_ownIn))
local macro_rules | `(tactic| walk_at "ite") => `(tactic| (k_here; k_openite; first | (refine ite_pos (by (simp only [beq_iff_eq, bne_iff_ne, decide_eq_true_eq]; omega)) ?_) | (refine ite_neg (by (simp only [beq_iff_eq, bne_iff_ne, decide_eq_true_eq]; omega)) ?_)))
local macro_rules | `(tactic| walk_at "binaryOp RShift int int") => `(tactic| (k_here; (first | (with_reducible refine' rsh_my ?e ?_; (case e => exact Eq.refl (Nat.cast _))) | (with_reducible refine' mid_my ?e ?_; (case e => assumption))); intro t9 tk9))
local macro_rules | `(tactic| walk_at "binaryOp LShift int int") => `(tactic| (k_here; k_dflt (refine' lsh_my ?e ?a ?b ?c ?_; (case e => with_reducible rfl); (case a => assumption); (case b => assumption); (case c => assumption)); intro t9 tk9))
local macro_rules | `(tactic| walk_at "binaryOp Mult int int") => `(tactic| (k_here; k_dflt (refine' mulc_my ?e ?n ?_; (case e => assumption); (case n => omega)); intro t9 tk9))
local macro_rules | `(tactic| walk_at "subscriptTail") => `(tactic| (k_here; (with_reducible show wpAny _ _ (subscriptTail _ _ (Value.ref _) (Value.int _ _)) _ _ _); k_dflt (refine' ksa_sub ?k1 ?k2 ?k3 ?k4 ?k5 ?k6 ?_ ?k7; (case k1 => k_asm); (case k2 => k_mem); (case k3 => assumption); (case k4 => omega); (case k5 => omega); (case k6 => omega); (case k7 => with_unfolding_all rfl)); intro t9))
local macro_rules | `(tactic| walk_at "truthy ref") => `(tactic| (k_here; k_dflt (refine' truthy_my ?N ?m ?s ?f ?_; (case N => k_asm); (case m => k_mem); (case s => assumption); (case f => omega)); intro tk9))
local macro_rules | `(tactic| walk_at "call builtin:len") => `(tactic| (k_here; k_dflt (refine' len_my ?N ?m ?s ?f ?_; (case N => k_asm); (case m => k_mem); (case s => assumption); (case f => omega))))
local macro_rules | `(tactic| walk_at "call ref") => `(tactic| (k_here; k_dflt (refine' dnn_at ?ih ?X ?B ?F ?N ?T ?hk ?hC ?mf ?mA ?mN ?mI ?mc ?dA ?dN ?dI ?dc ?dq ?mD ?I ?hb ?hN ?hlen ?hk0 ?hlo ?hhi ?hln ?hd ?hu ?_; (case ih => assumption); (case hlen => first | exact Int.sub_zero _); (case X => k_asm); (case B => k_asm); (case F => k_asm); (case N => k_asm); (case T => k_asm); (case hk => first | exact rfl | assumption); (case hC => k_asm); (case mf => k_mem); (case mA => k_mem); (case mN => k_mem); (case mI => k_mem); (case mc => k_mem); (case dA => assumption); (case dN => assumption); (case dI => assumption); (case dc => assumption); (case dq => assumption); (case mD => k_mem); (case I => assumption); (case hb => assumption); (case hN => omega); (case hk0 => omega); (case hlo => omega); (case hhi => omega); (case hln => omega); (case hd => ktr_room); (case hu => ktr_units)); intro v9 t9 h9 tk9 va9 vb9 F9 N9; (try dsimp only); (try k_fold)))
local macro_rules | `(tactic| walk_at "call ref") => `(tactic| (k_here; k_dflt (refine' dnn_ih ?ih ?lt ?X ?B ?F ?N ?T ?hk ?hC ?mf ?mA ?mN ?mI ?mc ?dA ?dN ?dI ?dc ?dq ?mD ?I ?hb ?hN ?hlen ?hk0 ?hlo ?hhi ?hln ?hd ?hu ?_; (case ih => assumption); (case hlen => first | assumption); (case lt => omega); (case X => k_asm); (case B => k_asm); (case F => k_asm); (case N => k_asm); (case T => k_asm); (case hk => first | exact rfl | assumption); (case hC => k_asm); (case mf => k_mem); (case mA => k_mem); (case mN => k_mem); (case mI => k_mem); (case mc => k_mem); (case dA => assumption); (case dN => assumption); (case dI => assumption); (case dc => assumption); (case dq => assumption); (case mD => k_mem); (case I => assumption); (case hb => assumption); (case hN => omega); (case hk0 => omega); (case hlo => omega); (case hhi => omega); (case hln => omega); (case hd => ktr_room); (case hu => ktr_units)); intro v9 t9 h9 tk9 va9 vb9 F9 N9; (try dsimp only); (try k_fold)))
local macro_rules | `(tactic| walk_at "exec FunctionDef") => `(tactic| (k_here; refine Stop.out ?_))
set_option maxRecDepth 100000 in
set_option maxHeartbeats 8000000 in
theorem d2_f {w : World} {loose : List Str} {mean : ExcName → Option Value} {mg mb : Str → Option Value} {dp un : Nat} {gd : Option (List Code)} {cn : Str} {cs : Scope} {a : Addr} {ccd : Value} {cl : List (Str × Addr)} {outer : List Env} {A₀ : Around} {base h₀ : Heap} {L : Addr} {m : Str → Option Value} {s : Shared} {Q E : Value → Shared → Prop} {news : List (Addr × Obj)} {D : Addr} {vs : List Value} {ns : List Int} {cap : Nat} {n : Int} {tn : Tok} {nb : Nat} :
   (Mine02.hd.heap_39 w.params).In h₀ → Below A₀ base outer h₀ → Fr h₀ L s.heap m → News h₀ L s.heap ((37, tabObj #[]) :: news) → Top topProg loose mean mg mb h₀ → cs.kind = .function →
   CodeHd base 41 37 → (∀ p ∈ news, p.1 ≠ 37) → (D, listOf vs.toArray cap) ∈ news → IntsAre vs ns → Bel nb ns → ns.length < 100 → n = (nb : Int) → 1 ≤ n → n ≤ 30 → dp + 300 < recursionLimit → un + 3000 < cLine →
   (∀ v c' oc vc t u h' tk', 0 ≤ v → Fr h₀ L h' m → News h₀ L h' ((37, tabObj #[rawInt 47, rawInt 4, .ref c']) :: (c', oc) :: news) → (∀ p ∈ news, p.1 < c') → @LT.lt Nat _ 37 c' → oc.data = .fields vc → vc[1]? = some (.str (Str.ofString "_digits2int.<locals>.inner") t) → Q (.int v u) { s with heap := h', toks := tk' }) →
   wpAny (model PySem.Challenge.rw_gy0003_02.row.prog w) (ktrTop dp un gd cn cs L a ccd cl outer) (call (.ref 42) [.ref D, .int n tn]) Q E s := by
  k_fill
  intro X B F N T hk hC h30 hD hi hbel hln hnN hn hn2 hd hu hret
  subst hnN
  have hM := kstMark
  have hvl := hi.length
  refine wpAny_call ?_
  k_dflt (refine' code_defC ?k1 ?k2 ?k3 ?k4 ?k5 ?kA ?kF ?kK ?k6 ?k7 ?k8 ?k9 ?kB ?kD ?_ ?c2 ?c3 ?c4; (case kA => exact rfl); (case kF => exact rfl); (case kK => assumption); (case k1 => k_asm); (case k2 => k_asm); (case k3 => k_asm); (case k4 => k_asm); (case k5 => k_asm); (case k6 => k_is); (case k7 => k_is); (case k8 => ktr_room); (case k9 => first | exact BindsTo.of_eq rfl | exact kp_binds (by k_in) (fun _ => rfl)); (case kB => exact rfl); (case kD => decide +kernel); (case c2 => exact rfl); (case c3 => exact rfl); (case c4 => exact rfl); k_whole; intro g' L' h' tk' cells' FG' F' N' Y' B' X' T' l1; k_cells Y'; (try simp only [List.cons_append, List.nil_append] at N'); (try dsimp only); (try k_lift B'); (try k_fold))
  have l30 : @LT.lt Nat _ 37 L' := l1 _ (.head _)
  have l1n : ∀ p ∈ news, p.1 < L' := fun p hp => l1 p (.tail _ hp)
  have lD : @LT.lt Nat _ D L' := l1n _ hD
  k_steps
  all_goals (refine Stop.intro ?_)
  all_goals k_dflt (refine' nestDef_K ?d0 ?k0 ?a0 ?_; (case d0 => exact rfl); (case k0 => exact rfl); (case a0 => exact rfl))
  all_goals k_dflt (refine' nest_K ?xF ?xN ?xT ?xC ?xcd ?xU ?xt ?xn ?xcl ?_; (case xF => k_asm); (case xN => k_asm); (case xT => k_asm); (case xcd => exact rfl); (case xC => kn_code); (case xU => k_updF); (case xt => kn_triples); (case xn => kn_among); (case xcl => exact rfl); k_whole)
  intro fI cI ocI vcI tI ctI dcI hI tkI FI NI dI1 dI2 lI1 lI2
  (try dsimp only at NI)
  k_lt lI1
  k_lt2 lI2
  refine dnn_use (w := w) (D := D) nb D NI dI2 ?_ ?_
  · intro k
    induction k using Nat.strongRecOn with
    | ind k IH =>
    unfold InnD
    intro loose2 mean2 mg2 mb2 dp2 un2 gd2 cn2 cs2 a2 ccd2 cl2 outer2 A2 base2 h2 L2 m2 s2 Q2 E2 news2 vs2 ns2 cap2 lo hi tl2 th2 tN2 t2 oA2 oN2 oI2 oc2 vc2 X2 B2 F2 N2 T2 hk2' hC2 mf mA mN mI mc dA dN dI dc dq mD I2 hb2 hN2 hlen hk0 hlo hhi hlen2 hd2 hu2 ret2
    refine wpAny_call ?_
    k_dflt (refine' code_nest ?k1 ?k2 ?k3 ?k4 ?k5 ?kA ?kF ?kK ?k6 ?k7 ?k8 ?k9 ?kB ?_ ?c2 ?c3 ?c4 ?c5; (case kA => exact rfl); (case kF => exact rfl); (case kK => assumption); (case k1 => exact B2); (case k2 => exact F2); (case k3 => exact X2); (case k4 => exact N2); (case k5 => exact T2); (case k6 => exact mf); (case k7 => exact codeRec_news N2 mc dc dq); (case k8 => ktr_room); (case k9 => exact BindsTo.of_eq rfl); (case c5 => decide); (case kB => exact locs rfl); (case c2 => exact rfl); (case c3 => exact rfl); (case c4 => exact rfl); k_whole; intro g' L' h' FG' F' N' B' X' T'; (try dsimp only); (try k_lift B'); (try k_fold))
    by_cases hone : lo + 1 = hi
    · obtain rfl : k = 1 := by omega
      have hb9 := bel_at hb2 (i := lo.toNat) (by omega)
      k_steps
      exact ret2 _ _ _ _ hb9.1 (by rw [Nat.mul_one]; exact hb9.2) (by assumption) (by assumption)
    · obtain ⟨i, j, hij, hi0, hj0, hmid⟩ : ∃ i j : Nat, k = i + j ∧ 0 < i ∧ 0 < j ∧ (lo + hi).fdiv 2 = lo + (i : Int) := by
        refine ⟨k / 2, k - k / 2, by omega, by omega, by omega, ?_⟩
        rw [Int.fdiv_eq_ediv_of_nonneg _ (by decide)]; omega
      subst hij
      have hsh : lo + (i : Int) - lo = (i : Int) := by omega
      have hsj : hi - (lo + (i : Int)) = (j : Int) := by omega
      have hsz1 : nb * j + nb * i ≤ 100000 := by
        have h1 : nb * (j + i) ≤ 30 * (j + i) := Nat.mul_le_mul_right _ (by omega)
        have h2 : j + i ≤ 1000 := by omega
        rw [← Nat.mul_add]; omega
      k_steps
      refine ret2 _ _ _ _ ?_ ?_ (by assumption) (by assumption)
      · exact (glue (N := nb) (i := i) (j := j) (by assumption) (by assumption) (by assumption) (by assumption)).1
      · exact (glue (N := nb) (i := i) (j := j) (by assumption) (by assumption) (by assumption) (by assumption)).2
  · intro hInn
    k_dflt (refine' storeX_C ?yF ?yN ?yc ?yU ?yd ?_ ?ya ?yb; (case ya => rfl); (case yb => rfl); (case yF => k_asm); (case yN => k_asm); (case yc => rfl); (case yU => k_updF); (case yd => k_asm); k_whole)
    intro hJ oJ FJ NJ dJ
    (try dsimp only at NJ)
    k_steps
    all_goals (
      refine' hret _ cI ocI _ tI _ _ _ ?e0 (by assumption) (cb_drop (by assumption) ?e2) ?e3 ?e4 dI1 dI2
      case e2 => k_allIn
      case e0 => first | assumption | decide
      case e3 => exact allLt_lt (And.right (And.right (And.right (And.right lI1))))
      case e4 => omega)
end
end Mine02

namespace Mine02
section
local macro_rules | `(tactic| k_memK) => `(tactic| first | exact List.Mem.head _ | (refine List.Mem.tail _ ?_; k_memK) | assumption)
local macro_rules | `(tactic| k_mem) => `(tactic| first | exact List.Mem.head _ | (refine List.Mem.tail _ ?_; k_mem) | assumption)
local macro_rules | `(tactic| k_all) => `(tactic| first | assumption | (refine allLt_ne ?_; first | assumption | exact And.right (by assumption) | exact And.right (And.right (by assumption)) | exact And.right (And.right (And.right (by assumption))) | exact And.right (And.right (And.right (And.right (by assumption)))) | exact And.right (And.right (And.right (And.right (And.right (by assumption)))))) | exact lt_ne (by assumption) (by omega))
local macro_rules | `(tactic| k_updF) => `(tactic| first | assumption | (refine' UpdF.head ?a; (case a => k_all)) | (refine' UpdF.tail ?a ?b; (case a => k_ne); (case b => k_updF)))
local macro_rules | `(tactic| k_ownIn) => `(tactic| first | assumption | (refine List.Mem.tail _ ?_; k_ownIn))
local macro_rules | `(tactic| k_allIn) => `(tactic| first | (refine List.forall_mem_cons.mpr ⟨by k_memK, ?_⟩; k_allIn) | (intro p hp; k_ownIn))
local macro_rules | `(tactic| walk_at "ite") => `(tactic| (k_here; k_openite; first | (refine ite_pos (by (simp only [beq_iff_eq, bne_iff_ne, decide_eq_true_eq]; omega)) ?_) | (refine ite_neg (by (simp only [beq_iff_eq, bne_iff_ne, decide_eq_true_eq]; omega)) ?_)))
local macro_rules | `(tactic| walk_at "binaryOp RShift int int") => `(tactic| (k_here; (first | (with_reducible refine' rsh_my ?e ?_; (case e => exact Eq.refl (Nat.cast _))) | (with_reducible refine' mid_my ?e ?_; (case e => assumption))); intro t9 tk9))
local macro_rules | `(tactic| walk_at "binaryOp LShift int int") => `(tactic| (k_here; k_dflt (refine' lsh_my ?e ?a ?b ?c ?_; (case e => with_reducible rfl); (case a => assumption); (case b => assumption); (case c => assumption)); intro t9 tk9))
local macro_rules | `(tactic| walk_at "binaryOp Mult int int") => `(tactic| (k_here; k_dflt (refine' mulc_my ?e ?n ?_; (case e => assumption); (case n => omega)); intro t9 tk9))
local macro_rules | `(tactic| walk_at "subscriptTail") => `(tactic| (k_here; (with_reducible show wpAny _ _ (subscriptTail _ _ (Value.ref _) (Value.int _ _)) _ _ _); k_dflt (refine' ksa_sub ?k1 ?k2 ?k3 ?k4 ?k5 ?k6 ?_ ?k7; (case k1 => k_asm); (case k2 => k_mem); (case k3 => assumption); (case k4 => omega); (case k5 => omega); (case k6 => omega); (case k7 => with_unfolding_all rfl)); intro t9))
local macro_rules | `(tactic| walk_at "truthy ref") => `(tactic| (k_here; k_dflt (refine' truthy_my ?N ?m ?s ?f ?_; (case N => k_asm); (case m => k_mem); (case s => assumption); (case f => omega)); intro tk9))
local macro_rules | `(tactic| walk_at "call builtin:len") => `(tactic| (k_here; k_dflt (refine' len_my ?N ?m ?s ?f ?_; (case N => k_asm); (case m => k_mem); (case s => assumption); (case f => omega))))
local macro_rules | `(tactic| walk_at "call ref") => `(tactic| (k_here; k_dflt (refine' dnn_at ?ih ?X ?B ?F ?N ?T ?hk ?hC ?mf ?mA ?mN ?mI ?mc ?dA ?dN ?dI ?dc ?dq ?mD ?I ?hb ?hN ?hlen ?hk0 ?hlo ?hhi ?hln ?hd ?hu ?_; (case ih => assumption); (case hlen => first | exact Int.sub_zero _); (case X => k_asm); (case B => k_asm); (case F => k_asm); (case N => k_asm); (case T => k_asm); (case hk => first | exact rfl | assumption); (case hC => k_asm); (case mf => k_mem); (case mA => k_mem); (case mN => k_mem); (case mI => k_mem); (case mc => k_mem); (case dA => assumption); (case dN => assumption); (case dI => assumption); (case dc => assumption); (case dq => assumption); (case mD => k_mem); (case I => assumption); (case hb => assumption); (case hN => omega); (case hk0 => omega); (case hlo => omega); (case hhi => omega); (case hln => omega); (case hd => ktr_room); (case hu => ktr_units)); intro v9 t9 h9 tk9 va9 vb9 F9 N9; (try dsimp only); (try k_fold)))
local macro_rules | `(tactic| walk_at "call ref") => `(tactic| (k_here; k_dflt (refine' dnn_ih ?ih ?lt ?X ?B ?F ?N ?T ?hk ?hC ?mf ?mA ?mN ?mI ?mc ?dA ?dN ?dI ?dc ?dq ?mD ?I ?hb ?hN ?hlen ?hk0 ?hlo ?hhi ?hln ?hd ?hu ?_; (case ih => assumption); (case hlen => first | assumption); (case lt => omega); (case X => k_asm); (case B => k_asm); (case F => k_asm); (case N => k_asm); (case T => k_asm); (case hk => first | exact rfl | assumption); (case hC => k_asm); (case mf => k_mem); (case mA => k_mem); (case mN => k_mem); (case mI => k_mem); (case mc => k_mem); (case dA => assumption); (case dN => assumption); (case dI => assumption); (case dc => assumption); (case dq => assumption); (case mD => k_mem); (case I => assumption); (case hb => assumption); (case hN => omega); (case hk0 => omega); (case hlo => omega); (case hhi => omega); (case hln => omega); (case hd => ktr_room); (case hu => ktr_units)); intro v9 t9 h9 tk9 va9 vb9 F9 N9; (try dsimp only); (try k_fold)))
local macro_rules | `(tactic| walk_at "exec FunctionDef") => `(tactic| (k_here; refine Stop.out ?_))
set_option maxRecDepth 100000 in
set_option maxHeartbeats 8000000 in
theorem d2_b {w : World} {loose : List Str} {mean : ExcName → Option Value} {mg mb : Str → Option Value} {dp un : Nat} {gd : Option (List Code)} {cn : Str} {cs : Scope} {a : Addr} {ccd : Value} {cl : List (Str × Addr)} {outer : List Env} {A₀ : Around} {base h₀ : Heap} {L : Addr} {m : Str → Option Value} {s : Shared} {Q E : Value → Shared → Prop} {news : List (Addr × Obj)} {D : Addr} {vs : List Value} {ns : List Int} {cap : Nat} {n : Int} {tn : Tok} {nb : Nat} {c' : Addr} {oc : Obj} {vc : Array Value} {tq : Tok} :
   (Mine02.hd.heap_39 w.params).In h₀ → Below A₀ base outer h₀ → Fr h₀ L s.heap m → News h₀ L s.heap news → Top topProg loose mean mg mb h₀ → cs.kind = .function →
   CodeHd base 41 37 → (37, tabObj #[rawInt 47, rawInt 4, .ref c']) ∈ news → (c', oc) ∈ news → oc.data = .fields vc → vc[1]? = some (.str (Str.ofString "_digits2int.<locals>.inner") tq) → (D, listOf vs.toArray cap) ∈ news → IntsAre vs ns → Bel nb ns → ns.length < 100 → n = (nb : Int) → 1 ≤ n → n ≤ 30 → dp + 300 < recursionLimit → un + 3000 < cLine →
   (∀ v u h' tk', 0 ≤ v → Fr h₀ L h' m → News h₀ L h' news → Q (.int v u) { s with heap := h', toks := tk' }) →
   wpAny (model PySem.Challenge.rw_gy0003_02.row.prog w) (ktrTop dp un gd cn cs L a ccd cl outer) (call (.ref 42) [.ref D, .int n tn]) Q E s := by
  k_fill
  intro X B F N T hk hC h30 hcm hcd hcq hD hi hbel hln hnN hn hn2 hd hu hret
  subst hnN
  have hM := kstMark
  have hvl := hi.length
  refine wpAny_call ?_
  k_dflt (refine' code_defC ?k1 ?k2 ?k3 ?k4 ?k5 ?kA ?kF ?kK ?k6 ?k7 ?k8 ?k9 ?kB ?kD ?_ ?c2 ?c3 ?c4; (case kA => exact rfl); (case kF => exact rfl); (case kK => assumption); (case k1 => k_asm); (case k2 => k_asm); (case k3 => k_asm); (case k4 => k_asm); (case k5 => k_asm); (case k6 => k_is); (case k7 => k_is); (case k8 => ktr_room); (case k9 => first | exact BindsTo.of_eq rfl | exact kp_binds (by k_in) (fun _ => rfl)); (case kB => exact rfl); (case kD => decide +kernel); (case c2 => exact rfl); (case c3 => exact rfl); (case c4 => exact rfl); k_whole; intro g' L' h' tk' cells' FG' F' N' Y' B' X' T' l1; k_cells Y'; (try simp only [List.cons_append, List.nil_append] at N'); (try dsimp only); (try k_lift B'); (try k_fold))
  have l30 : @LT.lt Nat _ 37 L' := l1 _ h30
  have lc : @LT.lt Nat _ c' L' := l1 _ hcm
  have lD : @LT.lt Nat _ D L' := l1 _ hD
  k_steps
  all_goals (refine Stop.intro ?_)
  all_goals k_dflt (refine' nestDef_K ?d0 ?k0 ?a0 ?_; (case d0 => exact rfl); (case k0 => exact rfl); (case a0 => exact rfl))
  all_goals k_dflt (refine' nestHit_K ?xF ?xN ?xT ?xC ?xcd ?xm ?xt ?xn ?xcl ?_; (case xF => k_asm); (case xN => k_asm); (case xT => k_asm); (case xcd => exact rfl); (case xC => kn_code); (case xm => k_mem); (case xt => kn_triples); (case xn => kn_hit); (case xcl => exact rfl); k_whole)
  intro fI ctI dcI hI tkI FI NI lI1
  (try dsimp only at NI)
  k_lt lI1
  refine dnn_useB (w := w) (D := D) nb D NI (c' := c') hcq ?_ ?_
  · intro k
    induction k using Nat.strongRecOn with
    | ind k IH =>
    unfold InnD
    intro loose2 mean2 mg2 mb2 dp2 un2 gd2 cn2 cs2 a2 ccd2 cl2 outer2 A2 base2 h2 L2 m2 s2 Q2 E2 news2 vs2 ns2 cap2 lo hi tl2 th2 tN2 t2 oA2 oN2 oI2 oc2 vc2 X2 B2 F2 N2 T2 hk2' hC2 mf mA mN mI mc dA dN dI dc dq mD I2 hb2 hN2 hlen hk0 hlo hhi hlen2 hd2 hu2 ret2
    refine wpAny_call ?_
    k_dflt (refine' code_nest ?k1 ?k2 ?k3 ?k4 ?k5 ?kA ?kF ?kK ?k6 ?k7 ?k8 ?k9 ?kB ?_ ?c2 ?c3 ?c4 ?c5; (case kA => exact rfl); (case kF => exact rfl); (case kK => assumption); (case k1 => exact B2); (case k2 => exact F2); (case k3 => exact X2); (case k4 => exact N2); (case k5 => exact T2); (case k6 => exact mf); (case k7 => exact codeRec_news N2 mc dc dq); (case k8 => ktr_room); (case k9 => exact BindsTo.of_eq rfl); (case c5 => decide); (case kB => exact locs rfl); (case c2 => exact rfl); (case c3 => exact rfl); (case c4 => exact rfl); k_whole; intro g' L' h' FG' F' N' B' X' T'; (try dsimp only); (try k_lift B'); (try k_fold))
    by_cases hone : lo + 1 = hi
    · obtain rfl : k = 1 := by omega
      have hb9 := bel_at hb2 (i := lo.toNat) (by omega)
      k_steps
      exact ret2 _ _ _ _ hb9.1 (by rw [Nat.mul_one]; exact hb9.2) (by assumption) (by assumption)
    · obtain ⟨i, j, hij, hi0, hj0, hmid⟩ : ∃ i j : Nat, k = i + j ∧ 0 < i ∧ 0 < j ∧ (lo + hi).fdiv 2 = lo + (i : Int) := by
        refine ⟨k / 2, k - k / 2, by omega, by omega, by omega, ?_⟩
        rw [Int.fdiv_eq_ediv_of_nonneg _ (by decide)]; omega
      subst hij
      have hsh : lo + (i : Int) - lo = (i : Int) := by omega
      have hsj : hi - (lo + (i : Int)) = (j : Int) := by omega
      have hsz1 : nb * j + nb * i ≤ 100000 := by
        have h1 : nb * (j + i) ≤ 30 * (j + i) := Nat.mul_le_mul_right _ (by omega)
        have h2 : j + i ≤ 1000 := by omega
        rw [← Nat.mul_add]; omega
      k_steps
      refine ret2 _ _ _ _ ?_ ?_ (by assumption) (by assumption)
      · exact (glue (N := nb) (i := i) (j := j) (by assumption) (by assumption) (by assumption) (by assumption)).1
      · exact (glue (N := nb) (i := i) (j := j) (by assumption) (by assumption) (by assumption) (by assumption)).2
  · intro hInn
    k_dflt (refine' storeX_C ?yF ?yN ?yc ?yU ?yd ?_ ?ya ?yb; (case ya => rfl); (case yb => rfl); (case yF => k_asm); (case yN => k_asm); (case yc => rfl); (case yU => k_updF); (case yd => k_asm); k_whole)
    intro hJ oJ FJ NJ dJ
    (try dsimp only at NJ)
    k_steps
    all_goals (
      refine' hret _ _ _ _ ?e0 (by assumption) (cb_drop (by assumption) ?e2)
      case e2 => k_allIn
      case e0 => first | assumption | decide)
end
end Mine02

namespace Mine02
/-! loops whose ledger may grow: over the library's own turn-by-turn rules, by induction -/
def LpJ {σ : Type} (Led : σ → List (Addr × Obj)) (ps : σ → List (Str × Value)) (x : Str) (stored : List Str) (m₀ : Str → Option Value) (P : σ → Prop) (m : Str → Option Value) (nx : List (Addr × Obj)) : Prop :=
  ∃ c : σ, nx = Led c ∧ P c ∧ (∀ p ∈ ps c, m p.1 = some p.2) ∧ (∀ z, z ≠ x → (∀ p ∈ ps c, z ≠ p.1) → stored.contains z = false → m z = m₀ z)
def LpPost (h₀ : Heap) (L : Addr) (s₁ : Shared) (I : Addr) (it : Obj) (J : (Str → Option Value) → List (Addr × Obj) → Prop) (Q : Flow → Shared → Prop) (f : Flow) (s₂ : Shared) : Prop := UnrPost h₀ L s₁ I it J Q f s₂
section
variable {prog : Program} {w : World} {A : Around} {E : Value → Shared → Prop} {s : Shared} {env : Env} {h₀ : Heap} {x : Str} {body : List Stmt} {Q : Flow → Shared → Prop}
theorem LpPost.next {σ : Type} {Led : σ → List (Addr × Obj)} {ps : σ → List (Str × Value)} {stored : List Str} {m₀ m' : Str → Option Value} {P : σ → Prop} {L I : Addr} {it : Obj} {s₁ : Shared} {h' : Heap} {tk : Nat} {all : List (Addr × Obj)} (c : σ)
    (F : Fr h₀ L h' m') (N : News h₀ L h' all) (hP : P c) (sub : ∀ p ∈ (I, it) :: Led c, p ∈ all) (off : ∀ p ∈ Led c, p.1 ≠ I) (hk : ∀ p ∈ ps c, m' p.1 = some p.2)
    (hs : ∀ z, z ≠ x → (∀ p ∈ ps c, z ≠ p.1) → stored.contains z = false → m' z = m₀ z) : LpPost h₀ L s₁ I it (LpJ Led ps x stored m₀ P) Q .next { s₁ with heap := h', toks := tk } :=
  UnrEnd.intro F N (Led c) sub off ⟨c, rfl, hP, hk, hs⟩
theorem LpPost.nextL {σ : Type} {Led : σ → List (Addr × Obj)} {ps : σ → List (Str × Value)} {stored : List Str} {m₀ m' : Str → Option Value} {P : σ → Prop} {L I : Addr} {it : Obj} {lp : Addr × Obj} {s₁ : Shared} {h' : Heap} {tk : Nat} {all : List (Addr × Obj)} (c : σ)
    (F : Fr h₀ L h' m') (N : News h₀ L h' all) (hP : P c) (sub : ∀ p ∈ (I, it) :: Led c, p ∈ all) (off : ∀ p ∈ Led c, p.1 ≠ I) (hk : ∀ p ∈ ps c, m' p.1 = some p.2)
    (hs : ∀ z, z ≠ x → (∀ p ∈ ps c, z ≠ p.1) → stored.contains z = false → m' z = m₀ z) (hl : lp ∈ Led c) : LpPost h₀ L s₁ I it (fun m nx => lp ∈ nx ∧ LpJ Led ps x stored m₀ P m nx) Q .next { s₁ with heap := h', toks := tk } :=
  UnrEnd.intro F N (Led c) sub off ⟨hl, c, rfl, hP, hk, hs⟩

theorem lp_rangeRest {σ : Type} {I : Addr} {a₀ : Int} {n : Nat} {m₀ : Str → Option Value} (Led : σ → List (Addr × Obj)) (ps : σ → List (Str × Value)) (stored : List Str) (P : Nat → σ → Prop)
    (turn : ∀ (c : σ) it i t (u : Str → Option Value) h tk, i < n → P i c → (∀ p ∈ Led c, p.1 ≠ I) →
      Fr h₀ env.locals h (fun y => if y = x then some (.int (a₀ + (i : Int)) t) else kstB (fun z => if stored.contains z then u z else m₀ z) (ps c) y) → News h₀ env.locals h ((I, it) :: Led c) →
      wpAny (model prog w) A (execs body env) (LpPost h₀ env.locals { s with heap := h, toks := tk } I it (LpJ Led ps x stored m₀ (P (i + 1))) Q) E { s with heap := h, toks := tk })
    (done : ∀ (c : σ) (u : Str → Option Value) h tk, P n c → Fr h₀ env.locals h (fun y => if y = x then u y else kstB (fun z => if stored.contains z then u z else m₀ z) (ps c) y) → News h₀ env.locals h (Led c) → Q .next { s with heap := h, toks := tk }) :
    ∀ (k i : Nat) (m : Str → Option Value) (nx : List (Addr × Obj)), i + k = n → (∀ p ∈ nx, p.1 ≠ I) → LpJ Led ps x stored m₀ (P i) m nx → RangeRest prog w A E h₀ env x body Q s I a₀ n k i m nx := by
  intro k
  induction k with
  | zero =>
    rintro i m nx hi _ ⟨c, rfl, hP, h1, h2⟩
    obtain rfl : i = n := by omega
    exact RangeRest.zero fun h tk F N => done c m h tk hP (kst_frOut h1 h2 F) N
  | succ k ih =>
    rintro i m nx hi hoff ⟨c, rfl, hP, h1, h2⟩
    refine RangeRest.succ fun t h tk F N => wpAny_mono (turn c _ i t m h tk (by omega) hP hoff (kst_fr h1 h2 F) N) (fun f s₂ p => ?_) fun _ _ e => e
    have fin : UnrEnd h₀ env.locals { s with heap := h, toks := tk } I (itR (a₀ + ((i + 1 : Nat) : Int)) ((n : Int) - ((i + 1 : Nat) : Int))) (LpJ Led ps x stored m₀ (P (i + 1))) s₂ →
        UnrEnd h₀ env.locals { s with heap := h, toks := tk } I (itR (a₀ + ((i + 1 : Nat) : Int)) ((n : Int) - ((i + 1 : Nat) : Int))) (RangeRest prog w A E h₀ env x body Q s I a₀ n k (i + 1)) s₂ := by
      rintro ⟨h', tk', m', nx', e, F', N', ho, r⟩
      exact ⟨h', tk', m', nx', e, F', N', ho, ih (i + 1) m' nx' (by omega) ho r⟩
    cases f with
    | ret v => exact p
    | brk => exact p
    | next => exact fin p
    | cont => exact fin p
theorem lp_range {σ : Type} {r : Addr} {a₀ b₀ : Int} {t₀ u₀ v₀ : Tok} {n : Nat} {m₀ : Str → Option Value} (Led : σ → List (Addr × Obj)) (ps : σ → List (Str × Value)) (stored : List Str) (P : Nat → σ → Prop) (c₀ : σ)
    (hh : A.handled = none) (hr : IsRange s.heap r a₀ b₀ 1 t₀ u₀ v₀) (hsmall : Builtin.Range.small a₀ b₀ 1 = true) (hn : Builtin.Range.rangeSize a₀ b₀ 1 = (n : Int)) (F : Fr h₀ env.locals s.heap m₀) (N : News h₀ env.locals s.heap (Led c₀)) (hk : ∀ p ∈ ps c₀, m₀ p.1 = some p.2) (hp : P 0 c₀)
    (turn : ∀ (c : σ) I it i t (u : Str → Option Value) h tk, i < n → P i c → (∀ p ∈ Led c, p.1 ≠ I) →
      Fr h₀ env.locals h (fun y => if y = x then some (.int (a₀ + (i : Int)) t) else kstB (fun z => if stored.contains z then u z else m₀ z) (ps c) y) → News h₀ env.locals h ((I, it) :: Led c) →
      wpAny (model prog w) A (execs body env) (LpPost h₀ env.locals { s with heap := h, toks := tk } I it (LpJ Led ps x stored m₀ (P (i + 1))) Q) E { s with heap := h, toks := tk })
    (done : ∀ (c : σ) (u : Str → Option Value) h tk, P n c → Fr h₀ env.locals h (fun y => if y = x then u y else kstB (fun z => if stored.contains z then u z else m₀ z) (ps c) y) → News h₀ env.locals h (Led c) → Q .next { s with heap := h, toks := tk }) :
    wpAny (model prog w) A (pyIter (.ref r)) (fun it s₂ => LoopAtV prog w A h₀ env x body Q E it s₂) E s :=
  iter_rangeUnr hh hr hsmall hn F N fun I hI => lp_rangeRest Led ps stored P (fun c it => turn c I it) done n 0 m₀ (Led c₀) (by omega) (fun p hp => Nat.ne_of_lt (hI p hp)) ⟨c₀, rfl, hp, hk, fun _ _ _ _ => rfl⟩

theorem lp_listRest {σ : Type} {I : Addr} {lp : Addr × Obj} {vs : List Value} {ns : List Int} {m₀ : Str → Option Value} (Led : σ → List (Addr × Obj)) (ps : σ → List (Str × Value)) (stored : List Str) (P : Nat → σ → Prop) (hi : IntsAre vs ns)
    (turn : ∀ (c : σ) it i n t (u : Str → Option Value) h tk, ns[i]? = some n → P i c → lp ∈ Led c → (∀ p ∈ Led c, p.1 ≠ I) →
      Fr h₀ env.locals h (fun y => if y = x then some (.int n t) else kstB (fun z => if stored.contains z then u z else m₀ z) (ps c) y) → News h₀ env.locals h ((I, it) :: Led c) →
      wpAny (model prog w) A (execs body env) (LpPost h₀ env.locals { s with heap := h, toks := tk } I it (fun m nx => lp ∈ nx ∧ LpJ Led ps x stored m₀ (P (i + 1)) m nx) Q) E { s with heap := h, toks := tk })
    (done : ∀ (c : σ) (u : Str → Option Value) h tk, P ns.length c → Fr h₀ env.locals h (fun y => if y = x then u y else kstB (fun z => if stored.contains z then u z else m₀ z) (ps c) y) → News h₀ env.locals h (Led c) → Q .next { s with heap := h, toks := tk }) :
    ∀ (r : List Value) (i : Nat) (m : Str → Option Value) (nx : List (Addr × Obj)), r = vs.drop i → i ≤ vs.length → lp ∈ nx → (∀ p ∈ nx, p.1 ≠ I) → LpJ Led ps x stored m₀ (P i) m nx → ListRest prog w A E h₀ env x body Q s I lp r m nx := by
  intro r
  induction r with
  | nil =>
    rintro i m nx hr hi' _ _ ⟨c, rfl, hP, h1, h2⟩
    have hlen : vs.length ≤ i := by
      have := congrArg List.length hr
      rw [List.length_drop] at this
      simp at this
      omega
    obtain rfl : i = ns.length := by have := hi.length; omega
    exact ListRest.zero fun h tk F N => done c m h tk hP (kst_frOut h1 h2 F) N
  | cons v r ih =>
    rintro i m nx hr hi' hlp hoff ⟨c, rfl, hP, h1, h2⟩
    have hlt : i < vs.length := by
      have := congrArg List.length hr
      rw [List.length_drop, List.length_cons] at this
      omega
    rw [List.drop_eq_getElem_cons hlt] at hr
    obtain ⟨hv, hr'⟩ := List.cons.inj hr
    have hlt' : i < ns.length := by have := hi.length; omega
    obtain ⟨t, hx⟩ := hi.get i ns[i] (by simp [hlt'])
    have hv' : v = .int ns[i] t := by
      rw [List.getElem?_eq_getElem hlt] at hx
      rw [hv]; exact Option.some.inj hx
    subst hv'
    refine ListRest.succ fun it h tk _ F N => wpAny_mono (turn c it i ns[i] t m h tk (by simp [hlt']) hP hlp hoff (kst_fr h1 h2 F) N) (fun f s₂ p => ?_) fun _ _ e => e
    have fin : UnrEnd h₀ env.locals { s with heap := h, toks := tk } I it (fun m nx => lp ∈ nx ∧ LpJ Led ps x stored m₀ (P (i + 1)) m nx) s₂ →
        UnrEnd h₀ env.locals { s with heap := h, toks := tk } I it (fun m' n' => lp ∈ n' ∧ ListRest prog w A E h₀ env x body Q s I lp r m' n') s₂ := by
      rintro ⟨h', tk', m', nx', e, F', N', ho, hl, r⟩
      exact ⟨h', tk', m', nx', e, F', N', ho, hl, ih (i + 1) m' nx' hr' hlt hl ho r⟩
    cases f with
    | ret v => exact p
    | brk => exact p
    | next => exact fin p
    | cont => exact fin p
theorem lp_list {σ : Type} {ax : Addr} {vs : List Value} {ns : List Int} {nn : Nat} {m₀ : Str → Option Value} (Led : σ → List (Addr × Obj)) (ps : σ → List (Str × Value)) (stored : List Str) (P : Nat → σ → Prop) (c₀ : σ)
    (hh : A.handled = none) (hm : (ax, listOf vs.toArray nn) ∈ Led c₀) (hi : IntsAre vs ns) (F : Fr h₀ env.locals s.heap m₀) (N : News h₀ env.locals s.heap (Led c₀)) (hk : ∀ p ∈ ps c₀, m₀ p.1 = some p.2) (hp : P 0 c₀)
    (turn : ∀ (c : σ) I it i n t (u : Str → Option Value) h tk, ns[i]? = some n → P i c → (ax, listOf vs.toArray nn) ∈ Led c → (∀ p ∈ Led c, p.1 ≠ I) →
      Fr h₀ env.locals h (fun y => if y = x then some (.int n t) else kstB (fun z => if stored.contains z then u z else m₀ z) (ps c) y) → News h₀ env.locals h ((I, it) :: Led c) →
      wpAny (model prog w) A (execs body env) (LpPost h₀ env.locals { s with heap := h, toks := tk } I it (fun m nx => (ax, listOf vs.toArray nn) ∈ nx ∧ LpJ Led ps x stored m₀ (P (i + 1)) m nx) Q) E { s with heap := h, toks := tk })
    (done : ∀ (c : σ) (u : Str → Option Value) h tk, P ns.length c → Fr h₀ env.locals h (fun y => if y = x then u y else kstB (fun z => if stored.contains z then u z else m₀ z) (ps c) y) → News h₀ env.locals h (Led c) → Q .next { s with heap := h, toks := tk }) :
    wpAny (model prog w) A (pyIter (.ref ax)) (fun it s₂ => LoopAtV prog w A h₀ env x body Q E it s₂) E s :=
  iter_listUnr hh F N hm rfl rfl fun I hI => lp_listRest Led ps stored P hi (fun c it => turn c I it) done vs 0 m₀ (Led c₀) rfl (Nat.zero_le _) hm (fun p hp => Nat.ne_of_lt (hI p hp)) ⟨c₀, rfl, hp, hk, fun _ _ _ _ => rfl⟩

theorem ints_rev : ∀ {vs : List Value} {ns : List Int}, IntsAre vs ns → IntsAre vs.reverse ns.reverse
  | _, _, .nil => .nil
  | _, _, .cons n t h => by rw [List.reverse_cons, List.reverse_cons]; exact (ints_rev h).append (.cons n t .nil)
theorem offI_of {I : Addr} {it : Obj} : ∀ {l : List (Addr × Obj)}, (∀ p ∈ l, p.1 ≠ I) → OffI I it l
  | [], _ => trivial
  | _ :: _, h => ⟨.inl (h _ (.head _)), offI_of fun q hq => h q (.tail _ hq)⟩
theorem lp_revRest {σ : Type} {I : Addr} {lp : Addr × Obj} {vs : List Value} {ns : List Int} {m₀ : Str → Option Value} (Led : σ → List (Addr × Obj)) (ps : σ → List (Str × Value)) (stored : List Str) (P : Nat → σ → Prop) (hi : IntsAre vs ns)
    (turn : ∀ (c : σ) it i n t (u : Str → Option Value) h tk, ns[i]? = some n → P i c → lp ∈ Led c → (∀ p ∈ Led c, p.1 ≠ I) →
      Fr h₀ env.locals h (fun y => if y = x then some (.int n t) else kstB (fun z => if stored.contains z then u z else m₀ z) (ps c) y) → News h₀ env.locals h ((I, it) :: Led c) →
      wpAny (model prog w) A (execs body env) (LpPost h₀ env.locals { s with heap := h, toks := tk } I it (fun m nx => lp ∈ nx ∧ LpJ Led ps x stored m₀ (P (i + 1)) m nx) Q) E { s with heap := h, toks := tk })
    (done : ∀ (c : σ) (u : Str → Option Value) h tk, P ns.length c → Fr h₀ env.locals h (fun y => if y = x then u y else kstB (fun z => if stored.contains z then u z else m₀ z) (ps c) y) → News h₀ env.locals h (Led c) → Q .next { s with heap := h, toks := tk }) :
    ∀ (r : List Value) (i : Nat) (m : Str → Option Value) (nx : List (Addr × Obj)), r = vs.drop i → i ≤ vs.length → lp ∈ nx → (∀ p ∈ nx, p.1 ≠ I) → LpJ Led ps x stored m₀ (P i) m nx → RevRest prog w A E h₀ env x body Q s I lp r m nx := by
  intro r
  induction r with
  | nil =>
    rintro i m nx hr hi' _ _ ⟨c, rfl, hP, h1, h2⟩
    have hlen : vs.length ≤ i := by
      have := congrArg List.length hr
      rw [List.length_drop] at this
      simp at this
      omega
    obtain rfl : i = ns.length := by have := hi.length; omega
    exact RevRest.zero fun h tk F N => done c m h tk hP (kst_frOut h1 h2 F) N
  | cons v r ih =>
    rintro i m nx hr hi' hlp hoff ⟨c, rfl, hP, h1, h2⟩
    have hlt : i < vs.length := by
      have := congrArg List.length hr
      rw [List.length_drop, List.length_cons] at this
      omega
    rw [List.drop_eq_getElem_cons hlt] at hr
    obtain ⟨hv, hr'⟩ := List.cons.inj hr
    have hlt' : i < ns.length := by have := hi.length; omega
    obtain ⟨t, hx⟩ := hi.get i ns[i] (by simp [hlt'])
    have hv' : v = .int ns[i] t := by
      rw [List.getElem?_eq_getElem hlt] at hx
      rw [hv]; exact Option.some.inj hx
    subst hv'
    refine RevRest.succ fun it h tk _ F N => wpAny_mono (turn c it i ns[i] t m h tk (by simp [hlt']) hP hlp hoff (kst_fr h1 h2 F) N) (fun f s₂ p => ?_) fun _ _ e => e
    have fin : UnrEnd h₀ env.locals { s with heap := h, toks := tk } I it (fun m nx => lp ∈ nx ∧ LpJ Led ps x stored m₀ (P (i + 1)) m nx) s₂ →
        UnrEnd h₀ env.locals { s with heap := h, toks := tk } I it (fun m' n' => lp ∈ n' ∧ RevRest prog w A E h₀ env x body Q s I lp r m' n') s₂ := by
      rintro ⟨h', tk', m', nx', e, F', N', ho, hl, r⟩
      exact ⟨h', tk', m', nx', e, F', N', ho, hl, ih (i + 1) m' nx' hr' hlt hl ho r⟩
    cases f with
    | ret v => exact p
    | brk => exact p
    | next => exact fin p
    | cont => exact fin p
theorem lp_rev {σ : Type} {ax I : Addr} {vs : List Value} {ns : List Int} {nn : Nat} {m₀ : Str → Option Value} (Led : σ → List (Addr × Obj)) (ps : σ → List (Str × Value)) (stored : List Str) (P : Nat → σ → Prop) (c₀ : σ)
    (hh : A.handled = none) (hm : (ax, listOf vs.toArray nn) ∈ Led c₀) (hi : IntsAre vs ns) (F : Fr h₀ env.locals s.heap m₀) (N : News h₀ env.locals s.heap ((I, revObj ax ((vs.length : Int) - 1)) :: Led c₀)) (hoff : ∀ p ∈ Led c₀, p.1 ≠ I) (hk : ∀ p ∈ ps c₀, m₀ p.1 = some p.2) (hp : P 0 c₀)
    (turn : ∀ (c : σ) it i n t (u : Str → Option Value) h tk, ns.reverse[i]? = some n → P i c → (ax, listOf vs.toArray nn) ∈ Led c → (∀ p ∈ Led c, p.1 ≠ I) →
      Fr h₀ env.locals h (fun y => if y = x then some (.int n t) else kstB (fun z => if stored.contains z then u z else m₀ z) (ps c) y) → News h₀ env.locals h ((I, it) :: Led c) →
      wpAny (model prog w) A (execs body env) (LpPost h₀ env.locals { s with heap := h, toks := tk } I it (fun m nx => (ax, listOf vs.toArray nn) ∈ nx ∧ LpJ Led ps x stored m₀ (P (i + 1)) m nx) Q) E { s with heap := h, toks := tk })
    (done : ∀ (c : σ) (u : Str → Option Value) h tk, P ns.reverse.length c → Fr h₀ env.locals h (fun y => if y = x then u y else kstB (fun z => if stored.contains z then u z else m₀ z) (ps c) y) → News h₀ env.locals h (Led c) → Q .next { s with heap := h, toks := tk }) :
    wpAny (model prog w) A (pyIter (.ref I)) (fun it s₂ => LoopAtV prog w A h₀ env x body Q E it s₂) E s :=
  iter_revUnr hh F N (offI_of hoff) hm rfl rfl (lp_revRest Led ps stored P (ints_rev hi) turn done vs.reverse 0 m₀ (Led c₀) rfl (Nat.zero_le _) hm hoff ⟨c₀, rfl, hp, hk, fun _ _ _ _ => rfl⟩)
end
end Mine02

namespace Mine02
/-! the tables, once grown -/
def GI (l : List (Addr × Obj)) : Prop := ∃ c' oc vc t, (30, tabObj #[rawInt 32, rawInt 4, .ref c']) ∈ l ∧ (c', oc) ∈ l ∧ oc.data = .fields vc ∧ (vc[1]? : Option Value) = some (.str (Str.ofString "_int2digits.<locals>.inner") t)
def GD (l : List (Addr × Obj)) : Prop := ∃ c' oc vc t, (37, tabObj #[rawInt 47, rawInt 4, .ref c']) ∈ l ∧ (c', oc) ∈ l ∧ oc.data = .fields vc ∧ (vc[1]? : Option Value) = some (.str (Str.ofString "_digits2int.<locals>.inner") t)
theorem GI.mono {l l' : List (Addr × Obj)} (h : GI l) (s : ∀ p ∈ l, p ∈ l') : GI l' := let ⟨c, o, v, t, a, b, d⟩ := h; ⟨c, o, v, t, s _ a, s _ b, d⟩
theorem GD.mono {l l' : List (Addr × Obj)} (h : GD l) (s : ∀ p ∈ l, p ∈ l') : GD l' := let ⟨c, o, v, t, a, b, d⟩ := h; ⟨c, o, v, t, s _ a, s _ b, d⟩
theorem GI.cons {l : List (Addr × Obj)} {p : Addr × Obj} (h : GI l) : GI (p :: l) := h.mono fun _ hq => .tail _ hq
theorem GD.cons {l : List (Addr × Obj)} {p : Addr × Obj} (h : GD l) : GD (p :: l) := h.mono fun _ hq => .tail _ hq
theorem i2_g {w : World} {loose : List Str} {mean : ExcName → Option Value} {mg mb : Str → Option Value} {dp un : Nat} {gd : Option (List Code)} {cn : Str} {cs : Scope} {a : Addr} {ccd : Value} {cl : List (Str × Addr)} {outer : List Env} {A₀ : Around} {base h₀ : Heap} {L : Addr} {m : Str → Option Value} {s : Shared} {Q E : Value → Shared → Prop} {news : List (Addr × Obj)} {x n : Int} {tx tn : Tok} {k nb : Nat}
   (X : (Mine02.hd.heap_39 w.params).In h₀) (B : Below A₀ base outer h₀) (F : Fr h₀ L s.heap m) (N : News h₀ L s.heap news) (T : Top topProg loose mean mg mb h₀) (hk : cs.kind = .function) (hC : CodeHd base 34 30) (hG : GI news)
   (h0 : 0 ≤ x) (h1 : x < 2 ^ 40) (hn : n = (nb : Int)) (h2 : 1 ≤ n) (h3 : n ≤ 30) (h4 : ((Builtin.Int.intBits x : Int) + n - 1).fdiv n = (k : Int)) (h5 : k < 100) (h6 : x < 2 ^ (nb * k)) (h7 : k = 0 ↔ x = 0) (hd : dp + 300 < recursionLimit) (hu : un + 3000 < cLine)
   (h : ∀ D vs' cap h' tk', IntsAre vs' (digs nb k x) → Fr h₀ L h' m → News h₀ L h' ((D, listOf vs'.toArray cap) :: news) → (∀ p ∈ news, p.1 < D) → Q (.ref D) { s with heap := h', toks := tk' }) :
   wpAny (model PySem.Challenge.rw_gy0003_02.row.prog w) (ktrTop dp un gd cn cs L a ccd cl outer) (call (.ref 35) [.int x tx, .int n tn]) Q E s :=
  let ⟨_, _, _, _, a, b, c, d⟩ := hG
  i2_b X B F N T hk hC a b c d h0 h1 hn h2 h3 h4 h5 h6 h7 hd hu h
theorem d2_g {w : World} {loose : List Str} {mean : ExcName → Option Value} {mg mb : Str → Option Value} {dp un : Nat} {gd : Option (List Code)} {cn : Str} {cs : Scope} {a : Addr} {ccd : Value} {cl : List (Str × Addr)} {outer : List Env} {A₀ : Around} {base h₀ : Heap} {L : Addr} {m : Str → Option Value} {s : Shared} {Q E : Value → Shared → Prop} {news : List (Addr × Obj)} {D : Addr} {vs : List Value} {ns : List Int} {cap : Nat} {n : Int} {tn : Tok} {nb : Nat}
   (X : (Mine02.hd.heap_39 w.params).In h₀) (B : Below A₀ base outer h₀) (F : Fr h₀ L s.heap m) (N : News h₀ L s.heap news) (T : Top topProg loose mean mg mb h₀) (hk : cs.kind = .function) (hC : CodeHd base 41 37) (hG : GD news)
   (hD : (D, listOf vs.toArray cap) ∈ news) (hi : IntsAre vs ns) (hb : Bel nb ns) (hl : ns.length < 100) (hn : n = (nb : Int)) (h2 : 1 ≤ n) (h3 : n ≤ 30) (hd : dp + 300 < recursionLimit) (hu : un + 3000 < cLine)
   (h : ∀ v u h' tk', 0 ≤ v → Fr h₀ L h' m → News h₀ L h' news → Q (.int v u) { s with heap := h', toks := tk' }) :
   wpAny (model PySem.Challenge.rw_gy0003_02.row.prog w) (ktrTop dp un gd cn cs L a ccd cl outer) (call (.ref 42) [.ref D, .int n tn]) Q E s :=
  let ⟨_, _, _, _, a, b, c, d⟩ := hG
  d2_b X B F N T hk hC a b c d hD hi hb hl hn h2 h3 hd hu h
/-! plain: long division by figures -/
theorem bits_eq {x : Int} (h0 : 0 ≤ x) : x < 2 ^ (Builtin.Int.intBits x) ∧ (0 < x → 2 ^ (Builtin.Int.intBits x - 1) ≤ x) := by
  unfold Builtin.Int.intBits
  split
  · rename_i h; have : x = 0 := by simpa using h
    subst this; exact ⟨by decide, by omega⟩
  · rename_i h
    have hx : x.natAbs ≠ 0 := by simpa using h
    have e : (x.natAbs : Int) = x := by omega
    have h1 : x.natAbs < 2 ^ (x.natAbs.log2 + 1) := Nat.lt_log2_self
    have h2 : 2 ^ x.natAbs.log2 ≤ x.natAbs := Nat.log2_self_le hx
    have c1 := kbt_cast (x.natAbs.log2 + 1)
    have c2 := kbt_cast x.natAbs.log2
    refine ⟨by omega, fun _ => ?_⟩
    rw [Nat.add_sub_cancel]; omega
theorem dig_count {x : Int} {nb : Nat} (h0 : 0 ≤ x) (h1 : x < 2 ^ 40) (hn : 1 ≤ nb) (hn2 : nb ≤ 30) :
    ∃ k : Nat, ((Builtin.Int.intBits x : Int) + (nb : Int) - 1).fdiv (nb : Int) = (k : Int) ∧ k < 100 ∧ x < 2 ^ (nb * k) ∧ (k = 0 ↔ x = 0) := by
  have hb : Builtin.Int.intBits x ≤ 40 := bits_le (by omega)
  have hx := bits_eq h0
  refine ⟨(Builtin.Int.intBits x + nb - 1) / nb, ?_, ?_, ?_, ?_⟩
  · rw [Int.fdiv_eq_ediv_of_nonneg _ (by omega), Int.natCast_ediv]
    congr 1; omega
  · have := Nat.div_le_self (Builtin.Int.intBits x + nb - 1) nb
    omega
  · have h2 : Builtin.Int.intBits x ≤ nb * ((Builtin.Int.intBits x + nb - 1) / nb) := by
      have := Nat.div_add_mod (Builtin.Int.intBits x + nb - 1) nb
      have := Nat.mod_lt (Builtin.Int.intBits x + nb - 1) (show nb > 0 by omega)
      omega
    have h3 : 2 ^ Builtin.Int.intBits x ≤ 2 ^ (nb * ((Builtin.Int.intBits x + nb - 1) / nb)) := Nat.pow_le_pow_right (by decide) h2
    have c1 := kbt_cast (Builtin.Int.intBits x)
    have c2 := kbt_cast (nb * ((Builtin.Int.intBits x + nb - 1) / nb))
    omega
  · constructor
    · intro hk
      have h2 : Builtin.Int.intBits x + nb - 1 < nb := by
        rcases Nat.lt_or_ge (Builtin.Int.intBits x + nb - 1) nb with h | h
        · exact h
        · have := Nat.div_pos h (by omega); omega
      have h3 : Builtin.Int.intBits x = 0 := by omega
      have := hx.1
      rw [h3] at this
      omega
    · intro hx0
      subst hx0
      have : Builtin.Int.intBits 0 = 0 := rfl
      rw [this, Nat.zero_add]
      exact Nat.div_eq_of_lt (by omega)
def hornM (nb : Nat) (b : Int) (ds : List Int) : Int := ds.foldl (fun r d => (r * 2 ^ nb + d) % b) 0
theorem hornM_snoc {nb : Nat} {b d : Int} {ds : List Int} : hornM nb b (ds ++ [d]) = (hornM nb b ds * 2 ^ nb + d) % b := by simp [hornM]
theorem horn_digs {nb : Nat} {b : Int} : ∀ (k : Nat) (x : Int), 0 ≤ x → x < 2 ^ (nb * k) → 0 < b → hornM nb b (digs nb k x).reverse = x % b
  | 0, x, h0, h1, _ => by
    have : x = 0 := by rw [Nat.mul_zero] at h1; omega
    subst this; simp [digs, hornM]
  | k + 1, x, h0, h1, hb => by
    have hp := p2_pos nb
    rw [digs, List.reverse_cons, hornM_snoc, horn_digs k (x / 2 ^ nb) (Int.ediv_nonneg h0 (Int.le_of_lt hp)) (by
      apply Int.ediv_lt_of_lt_mul hp
      rw [Nat.mul_succ, Int.pow_add] at h1; exact h1) hb]
    have e : x / 2 ^ nb * 2 ^ nb + x % 2 ^ nb = x := by rw [Int.mul_comm]; exact Int.mul_ediv_add_emod x (2 ^ nb)
    rw [Int.add_emod, Int.mul_emod, Int.emod_emod, ← Int.mul_emod, ← Int.add_emod, e]
theorem digs_bel {nb : Nat} : ∀ (k : Nat) (x : Int), Bel nb (digs nb k x)
  | 0, _ => fun _ h => nomatch h
  | k + 1, x => fun y h => by
    rw [digs] at h
    rcases List.mem_cons.mp h with rfl | h
    · exact ⟨Int.emod_nonneg _ (Int.ne_of_gt (p2_pos nb)), Int.emod_lt_of_pos _ (p2_pos nb)⟩
    · exact digs_bel k _ y h
theorem bel_rev {nb : Nat} {ns : List Int} (h : Bel nb ns) : Bel nb ns.reverse := fun y hy => h y (List.mem_reverse.mp hy)
theorem bel_snoc {nb : Nat} {ns : List Int} {y : Int} (h : Bel nb ns) (h0 : 0 ≤ y) (h1 : y < 2 ^ nb) : Bel nb (ns ++ [y]) := fun z hz => by
  rcases List.mem_append.mp hz with hz | hz
  · exact h z hz
  · rw [List.mem_singleton.mp hz]; exact ⟨h0, h1⟩
theorem take_snoc {ns : List Int} {i : Nat} {n : Int} (h : ns[i]? = some n) : ns.take (i + 1) = ns.take i ++ [n] := by simp [List.take_add_one, h]
theorem step_facts {r b d : Int} {nb : Nat} (hr0 : 0 ≤ r) (hr : r < b) (hd0 : 0 ≤ d) (hd : d < 2 ^ nb) (hb : b < 2 ^ 30) (hnb : nb ≤ 30) :
    0 ≤ r * 2 ^ nb + d ∧ r * 2 ^ nb + d < 2 ^ 62 ∧ 0 ≤ (r * 2 ^ nb + d).fdiv b ∧ (r * 2 ^ nb + d).fdiv b < 2 ^ nb ∧ (r * 2 ^ nb + d).fmod b = (r * 2 ^ nb + d) % b ∧ 0 ≤ (r * 2 ^ nb + d) % b ∧ (r * 2 ^ nb + d) % b < b := by
  have hp := p2_pos nb
  have h1 : 0 ≤ r * 2 ^ nb := Int.mul_nonneg hr0 (Int.le_of_lt hp)
  have h2 : (r + 1) * 2 ^ nb ≤ b * 2 ^ nb := Int.mul_le_mul_of_nonneg_right (by omega) (Int.le_of_lt hp)
  rw [Int.add_mul, Int.one_mul] at h2
  have h3 : (2 : Int) ^ nb ≤ 2 ^ 30 := by
    have := Nat.pow_le_pow_right (show 0 < 2 by decide) hnb
    have c1 := kbt_cast nb
    omega
  have h4 : b * 2 ^ nb ≤ 2 ^ 30 * 2 ^ 30 := Int.mul_le_mul (by omega) h3 (Int.le_of_lt hp) (by omega)
  have hb0 : 0 < b := by omega
  rw [Int.fdiv_eq_ediv_of_nonneg _ (Int.le_of_lt hb0), Int.fmod_eq_emod_of_nonneg _ (Int.le_of_lt hb0)]
  exact ⟨by omega, by omega, Int.ediv_nonneg (by omega) (by omega), Int.ediv_lt_of_lt_mul hb0 (by have := Int.mul_comm (2 ^ nb) b; omega), rfl, Int.emod_nonneg _ (by omega), Int.emod_lt_of_pos _ hb0⟩
section
variable {prog : Program} {w : World} {A : Around} {E Q : Value → Shared → Prop} {s : Shared} {h₀ : Heap} {L D : Addr} {m : Str → Option Value} {news : List (Addr × Obj)} {g : Obj → List (Addr × Obj)} {vs : List Value} {n : Nat} {v : Value}
theorem append_my (F : Fr h₀ L s.heap m) (N : News h₀ L s.heap news) (U : UpdF D (listOf vs.toArray n) news g) (hz : vs.length < 2 ^ 20)
    (h : ∀ h', Fr h₀ L h' m → News h₀ L h' (g (listOf (vs ++ [v]).toArray (n + 1))) → Q .none { s with heap := h' }) : wpAny (model prog w) A (call (.builtin "list.append") [.ref D, v]) Q E s := by
  have e : vs.toArray.push v = (vs ++ [v]).toArray := by simp
  refine append_K F N (by rw [e]; exact updF_upd U) h (by rw [List.size_toArray, sizeLine_eq]; omega)
theorem reverse_my (F : Fr h₀ L s.heap m) (N : News h₀ L s.heap news) (U : UpdF D (listOf vs.toArray n) news g) (hz : vs.length < 2 ^ 20)
    (h : ∀ h', Fr h₀ L h' m → News h₀ L h' (g (listOf vs.reverse.toArray n)) → Q .none { s with heap := h' }) : wpAny (model prog w) A (call (.builtin "list.reverse") [.ref D]) Q E s :=
  kl_reverse F N (by simp) (updF_upd U) (by rw [sizeLine_eq]; simp; omega) h
end
end Mine02

namespace Mine02
section
local macro_rules | `(tactic| k_memK) => `(tactic| first | exact List.Mem.head _ | (refine List.Mem.tail _ ?_; k_memK) | assumption)
local macro_rules | `(tactic| k_mem) => `(tactic| first | exact List.Mem.head _ | (refine List.Mem.tail _ ?_; k_mem) | assumption)
local macro_rules | `(tactic| k_all) => `(tactic| first | assumption | (refine allLt_ne ?_; first | assumption | exact And.right (by assumption) | exact And.right (And.right (by assumption)) | exact And.right (And.right (And.right (by assumption))) | exact And.right (And.right (And.right (And.right (by assumption)))) | exact And.right (And.right (And.right (And.right (And.right (by assumption)))))) | exact lt_ne (by assumption) (by omega))
local macro_rules | `(tactic| k_updF) => `(tactic| first | assumption | (refine' UpdF.head ?a; (case a => k_all)) | (refine' UpdF.tail ?a ?b; (case a => k_ne); (case b => k_updF)))
local macro_rules | `(tactic| k_ownIn) => `(tactic| first | assumption | (refine List.Mem.tail _ ?_; k_ownIn))
local macro_rules | `(tactic| k_allIn) => `(tactic| first | (refine List.forall_mem_cons.mpr ⟨by k_memK, ?_⟩; k_allIn) | (intro p hp; k_ownIn))
local macro_rules | `(tactic| walk_at "call ref") => `(tactic| (k_here; k_dflt (refine' d2_g ?X ?B ?F ?N ?T ?hk ?hC ?hG ?mD ?hi ?hb ?hl ?hn ?h2 ?h3 ?hd ?hu ?_; (case X => k_asm); (case B => k_asm); (case F => k_asm); (case N => k_asm); (case T => k_asm); (case hk => first | exact rfl | assumption); (case hC => k_asm); (case hG => repeat (first | assumption | refine GD.cons ?_)); (case mD => k_mem); (case hi => assumption); (case hb => assumption); (case hl => assumption); (case hn => exact Eq.refl (Nat.cast _)); (case h2 => omega); (case h3 => omega); (case hd => ktr_room); (case hu => ktr_units)); intro v9 u9 h9 tk9 p9 F9 N9; (try dsimp only); (try k_fold)))
local macro_rules | `(tactic| walk_at "call ref") => `(tactic| (k_here; k_dflt (refine' i2_g ?X ?B ?F ?N ?T ?hk ?hC ?hG ?h0 ?h1 ?hn ?h2 ?h3 ?h4 ?h5 ?h6 ?h7 ?hd ?hu ?_; (case X => k_asm); (case B => k_asm); (case F => k_asm); (case N => k_asm); (case T => k_asm); (case hk => first | exact rfl | assumption); (case hC => k_asm); (case hG => repeat (first | assumption | refine GI.cons ?_)); (case h0 => omega); (case h1 => omega); (case hn => exact Eq.refl (Nat.cast _)); (case h2 => omega); (case h3 => omega); (case h4 => assumption); (case h5 => assumption); (case h6 => assumption); (case h7 => assumption); (case hd => ktr_room); (case hu => ktr_units)); intro D9 vs9 cp9 h9 tk9 i9 F9 N9 l9; (try k_lt l9); (try dsimp only); (try k_fold)))
local macro_rules | `(tactic| walk_at "call ref") => `(tactic| (k_here; k_dflt (refine' dv_c ?X ?B ?F ?N ?T ?hk ?a ?b ?c ?d ?e ?hd ?hu ?_; (case X => k_asm); (case B => k_asm); (case F => k_asm); (case N => k_asm); (case T => k_asm); (case hk => first | exact rfl | assumption); (case a => assumption); (case b => assumption); (case c => assumption); (case d => assumption); (case e => omega); (case hd => ktr_room); (case hu => ktr_units)); intro T9 t9 u9 h9 tk9 F9 N9 l9; (try k_lt l9); (try dsimp only); (try k_fold)))
local macro_rules | `(tactic| walk_at "call builtin:list.append") => `(tactic| (k_here; k_dflt (refine' append_my ?F ?N ?U ?z ?_; (case F => k_asm); (case N => k_asm); (case U => k_updF); (case z => omega)); intro h9 F9 N9; (try dsimp only at N9); (try k_sweep)))
local macro_rules | `(tactic| walk_at "call builtin:list.reverse") => `(tactic| (k_here; k_dflt (refine' reverse_my ?F ?N ?U ?z ?_; (case F => k_asm); (case N => k_asm); (case U => k_updF); (case z => omega)); intro h9 F9 N9; (try dsimp only at N9); (try k_sweep)))
local macro_rules | `(tactic| walk_at "binaryOp LShift int int") => `(tactic| (k_here; k_dflt (refine' lsh_my ?e ?a ?b ?c ?_; (case e => with_reducible rfl); (case a => assumption); (case b => assumption); (case c => assumption)); intro t9 tk9))
local macro_rules | `(tactic| walk_at "exec For Name Call cons nil") => `(tactic| (k_here; (rename Fr _ _ _ _ => lF'); (with_unfolding_all refine' For_invVF lF' ?k1 ?k2 ?_; (case k1 => exact rfl); (case k2 => exact rfl); k_whole)))
local macro_rules | `(tactic| walk_at "pyIter ref") => `(tactic| (k_here; refine Stop.out ?_))
local macro_rules | `(tactic| cell_enter) => `(tactic| (refine' code_def ?k1 ?k2 ?k3 ?k4 ?k5 ?kA ?kF ?kK ?k6 ?k7 ?k8 ?k9 ?kB ?_ ?c2 ?c3 ?c4 ?c5; (case kA => exact rfl); (case kF => exact rfl); (case kK => assumption); (case k1 => k_asm); (case k2 => k_asm); (case k3 => k_asm); (case k4 => k_asm); (case k5 => k_asm); (case k6 => k_is); (case k7 => k_is); (case k8 => ktr_room); (case k9 => first | exact BindsTo.of_eq rfl | exact kp_binds (by k_in) (fun _ => rfl)); (case c5 => decide); (case kB => exact locs rfl); (case c2 => exact rfl); (case c3 => exact rfl); (case c4 => exact rfl); k_whole; intro g' L' h' FG' F' N' B' X' T'; (try dsimp only); (try k_lift B'); (try k_fold)))
set_option maxRecDepth 100000 in
set_option maxHeartbeats 8000000 in
theorem dp_b {w : World} {loose : List Str} {mean : ExcName → Option Value} {mg mb : Str → Option Value} {dp un : Nat} {gd : Option (List Code)} {cn : Str} {cs : Scope} {a : Addr} {ccd : Value} {cl : List (Str × Addr)} {outer : List Env} {A₀ : Around} {base h₀ : Heap} {L : Addr} {m : Str → Option Value} {s : Shared} {Q E : Value → Shared → Prop} {news : List (Addr × Obj)} {x b : Int} {tx tb : Tok} :
   (Mine02.hd.heap_39 w.params).In h₀ → Below A₀ base outer h₀ → Fr h₀ L s.heap m → News h₀ L s.heap news → Top topProg loose mean mg mb h₀ → cs.kind = .function → CodeHd base 34 30 → CodeHd base 41 37 → GI news → GD news → 0 ≤ x → x < 2 ^ 40 → 0 < b → b < 2 ^ 30 → dp + 302 < recursionLimit → un + 3100 < cLine →
   (∀ T q t u h' tk', Fr h₀ L h' m → News h₀ L h' ((T, tup2 q t (x % b) u) :: news) → (∀ p ∈ news, p.1 < T) → Q (.ref T) { s with heap := h', toks := tk' }) →
   wpAny (model PySem.Challenge.rw_gy0003_02.row.prog w) (ktrTop dp un gd cn cs L a ccd cl outer) (call (.ref 49) [.int x tx, .int b tb]) Q E s := by
  k_fill
  intro X B F N T hk hC hC2 hGI hGD hx0 hx hb hb2 hd hu hret
  have hM := kstMark
  have hnb : Builtin.Int.intBits b ≤ 30 := bits_le (by omega)
  have hnb1 : 1 ≤ Builtin.Int.intBits b := by
    rcases Nat.eq_zero_or_pos (Builtin.Int.intBits b) with h | h
    · have := (bits_eq (Int.le_of_lt hb)).1
      rw [h] at this; omega
    · exact h
  have hbb := (bits_eq (Int.le_of_lt hb)).1
  obtain ⟨k, hk1, hk2, hk3, hk4⟩ := dig_count hx0 hx hnb1 hnb
  refine wpAny_call ?_
  k_dflt cell_enter
  k_steps
  refine Stop.intro ?_
  (rename News _ _ _ _ => NJ)
  (rename Fr _ _ _ _ => FJ)
  refine name_three NJ ?_
  rintro I9 D2 D1 vq1 cp1 rfl rfl rfl rfl rfl
  have hi1 : IntsAre vq1 (digs (Builtin.Int.intBits b) k x) := by assumption
  have hdl := digs_len (Builtin.Int.intBits b) k x
  (with_unfolding_all refine' lp_rev (σ := Int × Tok × List Value × List Int × Nat) (ax := D1) (I := I9) (vs := vq1) (nn := cp1) (fun c => (D2, listOf c.2.2.1.toArray c.2.2.2.2) :: (D1, listOf vq1.toArray cp1) :: news) (fun c => [(Str.ofString "r", .int c.1 c.2.1)]) [Str.ofString "q_digit"] (fun i c => IntsAre c.2.2.1 c.2.2.2.1 ∧ c.2.2.2.1.length = i ∧ Bel (Builtin.Int.intBits b) c.2.2.2.1 ∧ c.1 = hornM (Builtin.Int.intBits b) b ((digs (Builtin.Int.intBits b) k x).reverse.take i) ∧ 0 ≤ c.1 ∧ c.1 < b) (0, _, [], [], 0) rfl ?lm hi1 FJ NJ ?lo ?lk ?lp ?lt ?ld)
  case lk => kst_all
  case lm => exact .tail _ (.head _)
  case lo => exact List.forall_mem_cons.mpr ⟨by k_ne, List.forall_mem_cons.mpr ⟨by k_ne, allLt_ne (And.right (And.right (by assumption)))⟩⟩
  case lp => exact ⟨.nil, rfl, (fun _ h => nomatch h), rfl, Int.le_refl 0, hb⟩
  case lt =>
    rintro ⟨r, tr, vq, qs, cap⟩ it i n t u h tk hn ⟨p1, p2, p3, p4, p5, p6⟩ hmem hoff F9 N9
    dsimp only at p1 p2 p3 p4 p5 p6 F9 N9
    have hnm : n ∈ digs (Builtin.Int.intBits b) k x := List.mem_reverse.mp (List.mem_of_getElem? hn)
    have hnd := digs_bel _ _ n hnm
    obtain ⟨s1, s2, s3, s4, s5, s6, s7⟩ := step_facts p5 p6 hnd.1 hnd.2 hb2 hnb
    have hr30 : r < 2 ^ 30 := by omega
    have hc30 : 30 + Builtin.Int.intBits b ≤ 100000 := by omega
    have hil : i < k := by
      have h1 := (List.getElem?_eq_some_iff.mp hn).1
      rw [List.length_reverse, hdl] at h1; exact h1
    have hvl := p1.length
    (try k_fold)
    k_steps
    all_goals (
      refine' LpPost.nextL (_, _, _, qs ++ [(r * 2 ^ Builtin.Int.intBits b + n).fdiv b], _) (by assumption) (by assumption) ?zP ?zs ?zo ?zk ?zh ?zl
      case zk => kst_all
      case zs => k_allIn
      case zo =>
        have z0 : D2 ≠ I9 := hoff _ (.head _)
        exact List.forall_mem_cons.mpr ⟨z0, fun p hp => hoff p (.tail _ hp)⟩
      case zh =>
        intro z h1 h2 h3
        have h2' : z ≠ Str.ofString "r" := h2 _ (.head _)
        have h3' : z ≠ Str.ofString "q_digit" := by simpa using h3
        simp [kstB, h1, h2', h3']
      case zl => exact .tail _ (.head _)
      case zP =>
        refine ⟨p1.append (.cons _ _ .nil), by rw [List.length_append]; exact congrArg (· + 1) p2, bel_snoc p3 s3 s4, ?_, ?_, ?_⟩
        · rw [take_snoc hn, hornM_snoc, ← p4]; exact s5
        · rw [s5]; exact s6
        · rw [s5]; exact s7)
  case ld =>
    rintro ⟨r, tr, vq, qs, cap⟩ u h tk ⟨p1, p2, p3, p4, p5, p6⟩ F9 N9
    dsimp only at p1 p2 p3 p4 p5 p6 F9 N9
    rw [List.take_length, horn_digs k x hx0 hk3 hb] at p4
    subst p4
    rw [List.length_reverse, hdl] at p2
    have hvl := p1.length
    have p1r := ints_rev p1
    have p3r := bel_rev p3
    have p2r : qs.reverse.length < 100 := by rw [List.length_reverse]; omega
    (try k_fold)
    k_steps
    refine hret _ _ _ _ _ _ (by assumption) (cb_drop (by assumption) (by k_allIn)) ?_
    exact allLt_lt (And.right (And.right (by assumption)))
end
end Mine02

namespace Mine02
section
local macro_rules | `(tactic| walk_at "ite") => `(tactic| (k_here; k_openite; first | (refine ite_pos (by (simp only [beq_iff_eq, bne_iff_ne, decide_eq_true_eq]; omega)) ?_) | (refine ite_neg (by (simp only [beq_iff_eq, bne_iff_ne, decide_eq_true_eq]; omega)) ?_)))
local macro_rules | `(tactic| walk_at "call ref") => `(tactic| (k_here; k_dflt (refine' dp_b ?X ?B ?F ?N ?T ?hk ?c1 ?c2 ?g1 ?g2 ?a ?b ?c ?d ?hd ?hu ?_; (case X => k_asm); (case B => k_asm); (case F => k_asm); (case N => k_asm); (case T => k_asm); (case hk => first | exact rfl | assumption); (case c1 => k_asm); (case c2 => k_asm); (case g1 => repeat (first | assumption | refine GI.cons ?_)); (case g2 => repeat (first | assumption | refine GD.cons ?_)); (case a => omega); (case b => omega); (case c => omega); (case d => omega); (case hd => ktr_room); (case hu => ktr_units)); intro T9 q9 t9 u9 h9 tk9 F9 N9 l9; (try k_lt l9); (try dsimp only); (try k_fold)))
local macro_rules | `(tactic| cell_enter) => `(tactic| (refine' code_def ?k1 ?k2 ?k3 ?k4 ?k5 ?kA ?kF ?kK ?k6 ?k7 ?k8 ?k9 ?kB ?_ ?c2 ?c3 ?c4 ?c5; (case kA => exact rfl); (case kF => exact rfl); (case kK => assumption); (case k1 => k_asm); (case k2 => k_asm); (case k3 => k_asm); (case k4 => k_asm); (case k5 => k_asm); (case k6 => k_is); (case k7 => k_is); (case k8 => ktr_room); (case k9 => first | exact BindsTo.of_eq rfl | exact kp_binds (by k_in) (fun _ => rfl)); (case c5 => decide); (case kB => exact locs rfl); (case c2 => exact rfl); (case c3 => exact rfl); (case c4 => exact rfl); k_whole; intro g' L' h' FG' F' N' B' X' T'; (try dsimp only); (try k_lift B'); (try k_fold)))
set_option maxRecDepth 100000 in
set_option maxHeartbeats 8000000 in
theorem id_b {w : World} {loose : List Str} {mean : ExcName → Option Value} {mg mb : Str → Option Value} {dp un : Nat} {gd : Option (List Code)} {cn : Str} {cs : Scope} {a : Addr} {ccd : Value} {cl : List (Str × Addr)} {outer : List Env} {A₀ : Around} {base h₀ : Heap} {L : Addr} {m : Str → Option Value} {s : Shared} {Q E : Value → Shared → Prop} {news : List (Addr × Obj)} {x b : Int} {tx tb : Tok} :
   (Mine02.hd.heap_39 w.params).In h₀ → Below A₀ base outer h₀ → Fr h₀ L s.heap m → News h₀ L s.heap news → Top topProg loose mean mg mb h₀ → cs.kind = .function → CodeHd base 34 30 → CodeHd base 41 37 → GI news → GD news → 0 ≤ x → x < 2 ^ 40 → 0 < b → b < 2 ^ 30 → dp + 303 < recursionLimit → un + 3200 < cLine →
   (∀ T q t u h' tk', Fr h₀ L h' m → News h₀ L h' ((T, tup2 q t (x % b) u) :: news) → (∀ p ∈ news, p.1 < T) → Q (.ref T) { s with heap := h', toks := tk' }) →
   wpAny (model PySem.Challenge.rw_gy0003_02.row.prog w) (ktrTop dp un gd cn cs L a ccd cl outer) (call (.ref 56) [.int x tx, .int b tb]) Q E s := by
  k_fill
  intro X B F N T hk hC hC2 hGI hGD hx0 hx hb hb2 hd hu hret
  have hM := kstMark
  refine wpAny_call ?_
  k_dflt cell_enter
  k_steps
  exact hret _ _ _ _ _ _ (by assumption) (by assumption) (by assumption)
end
end Mine02

namespace Mine02
def powStep (g p r d : Int) : Int := (r * r * (if d = 1 then g else 1)) % p
def powF (g pw p : Int) : Int := (digs 1 (Builtin.Int.intBits pw) pw).reverse.foldl (powStep g p) 1
def powI (g p : Int) (ds : List Int) : Int := ds.foldl (powStep g p) 1
theorem powI_snoc {g p d : Int} {ds : List Int} : powI g p (ds ++ [d]) = powStep g p (powI g p ds) d := by simp [powI]
theorem pow_end {g p r n v : Int} {ds : List Int} {i : Nat} (hn : ds[i]? = some n) (p1 : r = powI g p (ds.take i)) (e : v = powStep g p r n) (h0 : 0 ≤ powStep g p r n) (h1 : powStep g p r n < 16) : v = powI g p (ds.take (i + 1)) ∧ 0 ≤ v ∧ v < 16 := by
  subst e
  rw [take_snoc hn, powI_snoc, ← p1]
  exact ⟨rfl, h0, h1⟩
theorem pow_facts {g p r d : Int} (hg0 : 0 ≤ g) (hg : g < 16) (hp : 0 < p) (hp2 : p < 16) (hr0 : 0 ≤ r) (hr : r < 16) :
    0 ≤ r * r * g ∧ r * r * g < 2 ^ 40 ∧ 0 ≤ r * r * 1 ∧ r * r * 1 < 2 ^ 40 ∧ 0 ≤ r * r ∧ r * r < 256 ∧ 0 ≤ powStep g p r d ∧ powStep g p r d < 16 := by
  have h1 : 0 ≤ r * r := Int.mul_nonneg hr0 hr0
  have h2 : r * r ≤ 15 * 15 := Int.mul_le_mul (by omega) (by omega) hr0 (by omega)
  have h3 : 0 ≤ r * r * g := Int.mul_nonneg h1 hg0
  have h4 : r * r * g ≤ 15 * 15 * 15 := Int.mul_le_mul h2 (by omega) hg0 (by omega)
  have h5 := Int.emod_nonneg (r * r * (if d = 1 then g else 1)) (show p ≠ 0 by omega)
  have h6 := Int.emod_lt_of_pos (r * r * (if d = 1 then g else 1)) hp
  unfold powStep
  omega
theorem rev_my {prog : Program} {w : World} {A : Around} {E : Value → Shared → Prop} {s : Shared} {hp : Heap} {tk : Nat} {h₀ : Heap} {L l : Addr} {m : Str → Option Value} {news : List (Addr × Obj)} {value slice : PySem.Expr} {vs : List Value} {ns : List Int} {vk : Value} {ops : List Value} {Q : Value → Shared → Prop} {c : Nat}
    (F : Fr h₀ L hp m) (N : News h₀ L hp news) (hm : (l, listOf vs.toArray c) ∈ news) (pk : IsPart vk (some (-1))) (hi : IntsAre vs ns) (hz : vs.length < 2 ^ 20)
    (h : ∀ D ws h', Fr h₀ L h' m → News h₀ L h' ((D, listOf (List.toArray ws) 0) :: news) → (∀ p ∈ news, p.1 < D) → IntsAre ws ns.reverse → Q (.ref D) { s with heap := h', toks := tk })
    (hs : subscripted slice false (.ref l) (.ref hp.objs.size) = operate ops (getItem (.ref l) (.ref hp.objs.size))) (ht : ∀ r, letTemporaryGo value (.ref l) r = pure ()) :
    wpAny (model prog w) A (subscriptTail value slice (.ref l) (.ref hp.objs.size)) Q E { heap := hp.push { cls := .type "slice", data := .fields #[.none, .none, vk] }, gens := s.gens, drawn := s.drawn, toks := tk, os := s.os } :=
  krv_ints (s := { heap := hp, gens := s.gens, drawn := s.drawn, toks := tk, os := s.os }) F N (News.isList N hm) pk hi (fun D ws h' F' N' l i _ => h D ws h' F' N' l i) hs ht (by rw [List.size_toArray, sizeLine_eq]; omega)
section
local macro_rules | `(tactic| k_memK) => `(tactic| first | exact List.Mem.head _ | (refine List.Mem.tail _ ?_; k_memK) | assumption)
local macro_rules | `(tactic| k_mem) => `(tactic| first | exact List.Mem.head _ | (refine List.Mem.tail _ ?_; k_mem) | assumption)
local macro_rules | `(tactic| k_all) => `(tactic| first | assumption | (refine allLt_ne ?_; first | assumption | exact And.right (by assumption) | exact And.right (And.right (by assumption)) | exact And.right (And.right (And.right (by assumption))) | exact And.right (And.right (And.right (And.right (by assumption)))) | exact And.right (And.right (And.right (And.right (And.right (by assumption)))))) | exact lt_ne (by assumption) (by omega))
local macro_rules | `(tactic| k_updF) => `(tactic| first | assumption | (refine' UpdF.head ?a; (case a => k_all)) | (refine' UpdF.tail ?a ?b; (case a => k_ne); (case b => k_updF)))
local macro_rules | `(tactic| k_ownIn) => `(tactic| first | assumption | (refine List.Mem.tail _ ?_; k_ownIn))
local macro_rules | `(tactic| k_allIn) => `(tactic| first | (refine List.forall_mem_cons.mpr ⟨by k_memK, ?_⟩; k_allIn) | (intro p hp; k_ownIn))
local macro_rules | `(tactic| walk_at "call ref") => `(tactic| (k_here; k_dflt (refine' i2_g ?X ?B ?F ?N ?T ?hk ?hC ?hG ?h0 ?h1 ?hn ?h2 ?h3 ?h4 ?h5 ?h6 ?h7 ?hd ?hu ?_; (case X => k_asm); (case B => k_asm); (case F => k_asm); (case N => k_asm); (case T => k_asm); (case hk => first | exact rfl | assumption); (case hC => k_asm); (case hG => repeat (first | assumption | refine GI.cons ?_)); (case h0 => omega); (case h1 => omega); (case hn => assumption); (case h2 => omega); (case h3 => omega); (case h4 => assumption); (case h5 => assumption); (case h6 => assumption); (case h7 => assumption); (case hd => ktr_room); (case hu => ktr_units)); intro D9 vs9 cp9 h9 tk9 i9 F9 N9 l9; (try k_lt l9); (try dsimp only); (try k_fold)))
local macro_rules | `(tactic| walk_at "call builtin:list.append") => `(tactic| (k_here; k_dflt (refine' append_my ?F ?N ?U ?z ?_; (case F => k_asm); (case N => k_asm); (case U => k_updF); (case z => omega)); intro h9 F9 N9; (try dsimp only at N9); (try k_sweep)))
local macro_rules | `(tactic| walk_at "exec For Name Subscript cons nil") => `(tactic| (k_here; (rename Fr _ _ _ _ => lF'); (with_unfolding_all refine' For_invVF lF' ?k1 ?k2 ?_; (case k1 => exact rfl); (case k2 => exact rfl); k_whole)))
local macro_rules | `(tactic| walk_at "call ref") => `(tactic| (k_here; k_dflt (refine' id_b ?X ?B ?F ?N ?T ?hk ?c1 ?c2 ?g1 ?g2 ?a ?b ?c ?d ?hd ?hu ?_; (case X => k_asm); (case B => k_asm); (case F => k_asm); (case N => k_asm); (case T => k_asm); (case hk => first | exact rfl | assumption); (case c1 => k_asm); (case c2 => k_asm); (case g1 => repeat (first | assumption | refine GI.cons ?_)); (case g2 => repeat (first | assumption | refine GD.cons ?_)); (case a => first | assumption | omega); (case b => first | assumption | omega); (case c => omega); (case d => omega); (case hd => ktr_room); (case hu => ktr_units)); intro T9 q9 t9 u9 h9 tk9 F9 N9 l9; (try k_lt l9); (try dsimp only); (try k_fold)))
local macro_rules | `(tactic| walk_at "pyIter ref") => `(tactic| (k_here; refine Stop.out ?_))
local macro_rules | `(tactic| walk_at "subscriptTail Name Slice ref ref") => `(tactic| (k_here; k_dflt (refine' rev_my ?F ?N ?l ?k ?i ?z ?_ ?s ?t; (case F => k_asm); (case N => k_asm); (case l => k_mem); (case k => exact IsPart.int _ _); (case i => assumption); (case s => with_unfolding_all rfl); (case t => intro _; rfl); (case z => (have hL9 := IntsAre.length (by assumption)); (rw [digs_len] at hL9); omega)); intro D9 vs9 h9 F9 N9 l9 i9; (try k_lt l9)))
local macro_rules | `(tactic| walk_at "ite") => `(tactic| (k_here; k_openite; first | (refine ite_pos (by (simp only [beq_iff_eq, bne_iff_ne, decide_eq_true_eq]; omega)) ?_) | (refine ite_neg (by (simp only [beq_iff_eq, bne_iff_ne, decide_eq_true_eq]; omega)) ?_)))
local macro_rules | `(tactic| cell_enter) => `(tactic| (refine' code_def ?k1 ?k2 ?k3 ?k4 ?k5 ?kA ?kF ?kK ?k6 ?k7 ?k8 ?k9 ?kB ?_ ?c2 ?c3 ?c4 ?c5; (case kA => exact rfl); (case kF => exact rfl); (case kK => assumption); (case k1 => k_asm); (case k2 => k_asm); (case k3 => k_asm); (case k4 => k_asm); (case k5 => k_asm); (case k6 => k_is); (case k7 => k_is); (case k8 => ktr_room); (case k9 => first | exact BindsTo.of_eq rfl | exact kp_binds (by k_in) (fun _ => rfl)); (case c5 => decide); (case kB => exact locs rfl); (case c2 => exact rfl); (case c3 => exact rfl); (case c4 => exact rfl); k_whole; intro g' L' h' FG' F' N' B' X' T'; (try dsimp only); (try k_lift B'); (try k_fold)))
set_option maxRecDepth 100000 in
set_option maxHeartbeats 8000000 in
theorem lw_b {w : World} {loose : List Str} {mean : ExcName → Option Value} {mg mb : Str → Option Value} {dp un : Nat} {gd : Option (List Code)} {cn : Str} {cs : Scope} {a : Addr} {ccd : Value} {cl : List (Str × Addr)} {outer : List Env} {A₀ : Around} {base h₀ : Heap} {L : Addr} {m : Str → Option Value} {s : Shared} {Q E : Value → Shared → Prop} {news : List (Addr × Obj)} {g pw p : Int} {tg tw tp : Tok} :
   (Mine02.hd.heap_39 w.params).In h₀ → Below A₀ base outer h₀ → Fr h₀ L s.heap m → News h₀ L s.heap news → Top topProg loose mean mg mb h₀ → cs.kind = .function → CodeHd base 34 30 → CodeHd base 41 37 → GI news → GD news → 0 ≤ g → g < 16 → 0 ≤ pw → pw < 1000 → 0 < p → p < 16 → dp + 320 < recursionLimit → un + 3300 < cLine →
   (∀ t h' tk', Fr h₀ L h' m → News h₀ L h' news → Q (.int (powF g pw p) t) { s with heap := h', toks := tk' }) →
   wpAny (model PySem.Challenge.rw_gy0003_02.row.prog w) (ktrTop dp un gd cn cs L a ccd cl outer) (call (.ref 81) [.int g tg, .int pw tw, .int p tp]) Q E s := by
  k_fill
  intro X B F N T hk hC hC2 hGI hGD hg0 hg hw0 hw hp hp2 hd hu hret
  have hM := kstMark
  have hone : (1 : Int) = ((1 : Nat) : Int) := rfl
  obtain ⟨k, hk1, hk2, hk3, hk4⟩ := dig_count (x := pw) (nb := 1) hw0 (by omega) (by decide) (by decide)
  have hkk : k = Builtin.Int.intBits pw := by
    have e : ((Builtin.Int.intBits pw : Int) + ((1 : Nat) : Int) - 1) = (Builtin.Int.intBits pw : Int) := by omega
    rw [e, Int.fdiv_eq_ediv_of_nonneg _ (by decide)] at hk1
    omega
  refine wpAny_call ?_
  k_dflt cell_enter
  k_steps
  refine Stop.intro ?_
  rename_i D2 vs2 h2 F2 N2 hi2 l2
  have N3 : News _ _ h2 ((D2, listOf vs2.toArray 0) :: news) := cb_drop N2 (by k_allIn)
  (with_unfolding_all refine' lp_list (σ := Int × Tok) (ax := D2) (vs := vs2) (nn := 0) (fun _ => (D2, listOf vs2.toArray 0) :: news) (fun c => [(Str.ofString "found", .int c.1 c.2)]) [] (fun i c => c.1 = powI g p ((digs 1 k pw).reverse.take i) ∧ 0 ≤ c.1 ∧ c.1 < 16) (1, _) rfl ?lm hi2 F2 N3 ?lk ?lp ?lt ?ld)
  case lk => kst_all
  case lm => exact .head _
  case lp => exact ⟨rfl, by show (0 : Int) ≤ 1; decide, by show (1 : Int) < 16; decide⟩
  case lt =>
    rintro ⟨r, tr⟩ I it i n t u h tk hn ⟨p1, p2, p3⟩ hmem hoff F9 N9
    dsimp only at p1 p2 p3 F9 N9
    obtain ⟨s1, s2, s3, s4, s5, s6, s7, s8⟩ := pow_facts (d := n) hg0 hg hp hp2 p2 p3
    (try k_fold)
    by_cases hn1 : n = 1
    all_goals (
      k_steps
      refine' LpPost.nextL (_, _) (by assumption) (by assumption) ?zP ?zs ?zo ?zk ?zh ?zl
      case zk => kst_all
      case zs => k_allIn
      case zo => exact hoff
      case zh =>
        intro z h1 h2 h3
        have h2' : z ≠ Str.ofString "found" := h2 _ (.head _)
        simp [kstB, h1, h2']
      case zl => exact .head _
      case zP => exact pow_end hn p1 (by unfold powStep; first | rw [if_pos hn1] | rw [if_neg hn1]) s7 s8)
  case ld =>
    rintro ⟨r, tr⟩ u h tk ⟨p1, p2, p3⟩ F9 N9
    dsimp only at p1 p2 p3 F9 N9
    rw [List.take_length, hkk] at p1
    subst p1
    (try k_fold)
    k_steps
    exact hret _ _ _ (by assumption) (cb_drop (by assumption) (by k_allIn))
end
end Mine02

namespace Mine02
section
local macro_rules | `(tactic| k_memK) => `(tactic| first | exact List.Mem.head _ | (refine List.Mem.tail _ ?_; k_memK) | assumption)
local macro_rules | `(tactic| k_mem) => `(tactic| first | exact List.Mem.head _ | (refine List.Mem.tail _ ?_; k_mem) | assumption)
local macro_rules | `(tactic| k_all) => `(tactic| first | assumption | (refine allLt_ne ?_; first | assumption | exact And.right (by assumption) | exact And.right (And.right (by assumption)) | exact And.right (And.right (And.right (by assumption))) | exact And.right (And.right (And.right (And.right (by assumption)))) | exact And.right (And.right (And.right (And.right (And.right (by assumption)))))) | exact lt_ne (by assumption) (by omega))
local macro_rules | `(tactic| k_updF) => `(tactic| first | assumption | (refine' UpdF.head ?a; (case a => k_all)) | (refine' UpdF.tail ?a ?b; (case a => k_ne); (case b => k_updF)))
local macro_rules | `(tactic| k_ownIn) => `(tactic| first | assumption | (refine List.Mem.tail _ ?_; k_ownIn))
local macro_rules | `(tactic| k_allIn) => `(tactic| first | (refine List.forall_mem_cons.mpr ⟨by k_memK, ?_⟩; k_allIn) | (intro p hp; k_ownIn))
local macro_rules | `(tactic| walk_at "call ref") => `(tactic| (k_here; k_dflt (refine' d2_g ?X ?B ?F ?N ?T ?hk ?hC ?hG ?mD ?hi ?hb ?hl ?hn ?h2 ?h3 ?hd ?hu ?_; (case X => k_asm); (case B => k_asm); (case F => k_asm); (case N => k_asm); (case T => k_asm); (case hk => first | exact rfl | assumption); (case hC => k_asm); (case hG => repeat (first | assumption | refine GD.cons ?_)); (case mD => k_mem); (case hi => assumption); (case hb => assumption); (case hl => assumption); (case hn => exact Eq.refl (Nat.cast _)); (case h2 => omega); (case h3 => omega); (case hd => ktr_room); (case hu => ktr_units)); intro v9 u9 h9 tk9 p9 F9 N9; (try dsimp only); (try k_fold)))
local macro_rules | `(tactic| walk_at "call ref") => `(tactic| (k_here; k_dflt (refine' i2_g ?X ?B ?F ?N ?T ?hk ?hC ?hG ?h0 ?h1 ?hn ?h2 ?h3 ?h4 ?h5 ?h6 ?h7 ?hd ?hu ?_; (case X => k_asm); (case B => k_asm); (case F => k_asm); (case N => k_asm); (case T => k_asm); (case hk => first | exact rfl | assumption); (case hC => k_asm); (case hG => repeat (first | assumption | refine GI.cons ?_)); (case h0 => omega); (case h1 => omega); (case hn => exact Eq.refl (Nat.cast _)); (case h2 => omega); (case h3 => omega); (case h4 => assumption); (case h5 => assumption); (case h6 => assumption); (case h7 => assumption); (case hd => ktr_room); (case hu => ktr_units)); intro D9 vs9 cp9 h9 tk9 i9 F9 N9 l9; (try k_lt l9); (try dsimp only); (try k_fold)))
local macro_rules | `(tactic| walk_at "call ref") => `(tactic| (k_here; k_dflt (refine' dv_c ?X ?B ?F ?N ?T ?hk ?a ?b ?c ?d ?e ?hd ?hu ?_; (case X => k_asm); (case B => k_asm); (case F => k_asm); (case N => k_asm); (case T => k_asm); (case hk => first | exact rfl | assumption); (case a => assumption); (case b => assumption); (case c => assumption); (case d => assumption); (case e => omega); (case hd => ktr_room); (case hu => ktr_units)); intro T9 t9 u9 h9 tk9 F9 N9 l9; (try k_lt l9); (try dsimp only); (try k_fold)))
local macro_rules | `(tactic| walk_at "call builtin:list.append") => `(tactic| (k_here; k_dflt (refine' append_my ?F ?N ?U ?z ?_; (case F => k_asm); (case N => k_asm); (case U => k_updF); (case z => omega)); intro h9 F9 N9; (try dsimp only at N9); (try k_sweep)))
local macro_rules | `(tactic| walk_at "call builtin:list.reverse") => `(tactic| (k_here; k_dflt (refine' reverse_my ?F ?N ?U ?z ?_; (case F => k_asm); (case N => k_asm); (case U => k_updF); (case z => omega)); intro h9 F9 N9; (try dsimp only at N9); (try k_sweep)))
local macro_rules | `(tactic| walk_at "binaryOp LShift int int") => `(tactic| (k_here; k_dflt (refine' lsh_my ?e ?a ?b ?c ?_; (case e => with_reducible rfl); (case a => assumption); (case b => assumption); (case c => assumption)); intro t9 tk9))
local macro_rules | `(tactic| walk_at "exec For Name Call cons nil") => `(tactic| (k_here; (rename Fr _ _ _ _ => lF'); (with_unfolding_all refine' For_invVF lF' ?k1 ?k2 ?_; (case k1 => exact rfl); (case k2 => exact rfl); k_whole)))
local macro_rules | `(tactic| walk_at "pyIter ref") => `(tactic| (k_here; refine Stop.out ?_))
local macro_rules | `(tactic| walk_at "call ref") => `(tactic| (k_here; (with_reducible show wpAny _ _ (call (Value.ref 42) _) _ _ _); refine Stop.out ?_))
local macro_rules | `(tactic| cell_enter) => `(tactic| (refine' code_def ?k1 ?k2 ?k3 ?k4 ?k5 ?kA ?kF ?kK ?k6 ?k7 ?k8 ?k9 ?kB ?_ ?c2 ?c3 ?c4 ?c5; (case kA => exact rfl); (case kF => exact rfl); (case kK => assumption); (case k1 => k_asm); (case k2 => k_asm); (case k3 => k_asm); (case k4 => k_asm); (case k5 => k_asm); (case k6 => k_is); (case k7 => k_is); (case k8 => ktr_room); (case k9 => first | exact BindsTo.of_eq rfl | exact kp_binds (by k_in) (fun _ => rfl)); (case c5 => decide); (case kB => exact locs rfl); (case c2 => exact rfl); (case c3 => exact rfl); (case c4 => exact rfl); k_whole; intro g' L' h' FG' F' N' B' X' T'; (try dsimp only); (try k_lift B'); (try k_fold)))
set_option maxRecDepth 100000 in
set_option maxHeartbeats 8000000 in
theorem dp_f {w : World} {loose : List Str} {mean : ExcName → Option Value} {mg mb : Str → Option Value} {dp un : Nat} {gd : Option (List Code)} {cn : Str} {cs : Scope} {a : Addr} {ccd : Value} {cl : List (Str × Addr)} {outer : List Env} {A₀ : Around} {base h₀ : Heap} {L : Addr} {m : Str → Option Value} {s : Shared} {Q E : Value → Shared → Prop} {news : List (Addr × Obj)} {x b : Int} {tx tb : Tok} :
   (Mine02.hd.heap_39 w.params).In h₀ → Below A₀ base outer h₀ → Fr h₀ L s.heap m → News h₀ L s.heap ((37, tabObj #[]) :: news) → Top topProg loose mean mg mb h₀ → cs.kind = .function → CodeHd base 34 30 → CodeHd base 41 37 → GI news → (∀ p ∈ news, p.1 ≠ 37) → 0 ≤ x → x < 2 ^ 40 → 0 < b → b < 2 ^ 30 → dp + 302 < recursionLimit → un + 3100 < cLine →
   (∀ T q t u c' oc vc tc h' tk', Fr h₀ L h' m → News h₀ L h' ((T, tup2 q t (x % b) u) :: (37, tabObj #[rawInt 47, rawInt 4, .ref c']) :: (c', oc) :: news) → (∀ p ∈ news, p.1 < c') → @LT.lt Nat _ 37 c' → @LT.lt Nat _ c' T → oc.data = .fields vc → vc[1]? = some (.str (Str.ofString "_digits2int.<locals>.inner") tc) → Q (.ref T) { s with heap := h', toks := tk' }) →
   wpAny (model PySem.Challenge.rw_gy0003_02.row.prog w) (ktrTop dp un gd cn cs L a ccd cl outer) (call (.ref 49) [.int x tx, .int b tb]) Q E s := by
  k_fill
  intro X B F N T hk hC hC2 hGI h37 hx0 hx hb hb2 hd hu hret
  have hM := kstMark
  have hnb : Builtin.Int.intBits b ≤ 30 := bits_le (by omega)
  have hnb1 : 1 ≤ Builtin.Int.intBits b := by
    rcases Nat.eq_zero_or_pos (Builtin.Int.intBits b) with h | h
    · have := (bits_eq (Int.le_of_lt hb)).1
      rw [h] at this; omega
    · exact h
  have hbb := (bits_eq (Int.le_of_lt hb)).1
  obtain ⟨k, hk1, hk2, hk3, hk4⟩ := dig_count hx0 hx hnb1 hnb
  refine wpAny_call ?_
  k_dflt cell_enter
  k_steps
  refine Stop.intro ?_
  (rename News _ _ _ _ => NJ)
  (rename Fr _ _ _ _ => FJ)
  refine name_three NJ ?_
  rintro I9 D2 D1 vq1 cp1 rfl rfl rfl rfl rfl
  have hi1 : IntsAre vq1 (digs (Builtin.Int.intBits b) k x) := by assumption
  have hdl := digs_len (Builtin.Int.intBits b) k x
  (with_unfolding_all refine' lp_rev (σ := Int × Tok × List Value × List Int × Nat) (ax := D1) (I := I9) (vs := vq1) (nn := cp1) (fun c => (D2, listOf c.2.2.1.toArray c.2.2.2.2) :: (D1, listOf vq1.toArray cp1) :: (37, tabObj #[]) :: news) (fun c => [(Str.ofString "r", .int c.1 c.2.1)]) [Str.ofString "q_digit"] (fun i c => IntsAre c.2.2.1 c.2.2.2.1 ∧ c.2.2.2.1.length = i ∧ Bel (Builtin.Int.intBits b) c.2.2.2.1 ∧ c.1 = hornM (Builtin.Int.intBits b) b ((digs (Builtin.Int.intBits b) k x).reverse.take i) ∧ 0 ≤ c.1 ∧ c.1 < b) (0, _, [], [], 0) rfl ?lm hi1 FJ NJ ?lo ?lk ?lp ?lt ?ld)
  case lk => kst_all
  case lm => exact .tail _ (.head _)
  case lo => exact List.forall_mem_cons.mpr ⟨by k_ne, List.forall_mem_cons.mpr ⟨by k_ne, List.forall_mem_cons.mpr ⟨by k_ne, allLt_ne (And.right (And.right (And.right (by assumption))))⟩⟩⟩
  case lp => exact ⟨.nil, rfl, (fun _ h => nomatch h), rfl, Int.le_refl 0, hb⟩
  case lt =>
    rintro ⟨r, tr, vq, qs, cap⟩ it i n t u h tk hn ⟨p1, p2, p3, p4, p5, p6⟩ hmem hoff F9 N9
    dsimp only at p1 p2 p3 p4 p5 p6 F9 N9
    have hnm : n ∈ digs (Builtin.Int.intBits b) k x := List.mem_reverse.mp (List.mem_of_getElem? hn)
    have hnd := digs_bel _ _ n hnm
    obtain ⟨s1, s2, s3, s4, s5, s6, s7⟩ := step_facts p5 p6 hnd.1 hnd.2 hb2 hnb
    have hr30 : r < 2 ^ 30 := by omega
    have hc30 : 30 + Builtin.Int.intBits b ≤ 100000 := by omega
    have hil : i < k := by
      have h1 := (List.getElem?_eq_some_iff.mp hn).1
      rw [List.length_reverse, hdl] at h1; exact h1
    have hvl := p1.length
    (try k_fold)
    k_steps
    all_goals (
      refine' LpPost.nextL (_, _, _, qs ++ [(r * 2 ^ Builtin.Int.intBits b + n).fdiv b], _) (by assumption) (by assumption) ?zP ?zs ?zo ?zk ?zh ?zl
      case zk => kst_all
      case zs => k_allIn
      case zo =>
        have z0 : D2 ≠ I9 := hoff _ (.head _)
        exact List.forall_mem_cons.mpr ⟨z0, fun p hp => hoff p (.tail _ hp)⟩
      case zh =>
        intro z h1 h2 h3
        have h2' : z ≠ Str.ofString "r" := h2 _ (.head _)
        have h3' : z ≠ Str.ofString "q_digit" := by simpa using h3
        simp [kstB, h1, h2', h3']
      case zl => exact .tail _ (.head _)
      case zP =>
        refine ⟨p1.append (.cons _ _ .nil), by rw [List.length_append]; exact congrArg (· + 1) p2, bel_snoc p3 s3 s4, ?_, ?_, ?_⟩
        · rw [take_snoc hn, hornM_snoc, ← p4]; exact s5
        · rw [s5]; exact s6
        · rw [s5]; exact s7)
  case ld =>
    rintro ⟨r, tr, vq, qs, cap⟩ u h tk ⟨p1, p2, p3, p4, p5, p6⟩ F9 N9
    dsimp only at p1 p2 p3 p4 p5 p6 F9 N9
    rw [List.take_length, horn_digs k x hx0 hk3 hb] at p4
    subst p4
    rw [List.length_reverse, hdl] at p2
    have hvl := p1.length
    have p1r := ints_rev p1
    have p3r := bel_rev p3
    have p2r : qs.reverse.length < 100 := by rw [List.length_reverse]; omega
    (try k_fold)
    k_steps
    refine Stop.intro ?_
    k_dflt (refine' d2_f (news := (D2, listOf vq.reverse.toArray cap) :: (D1, listOf vq1.toArray cp1) :: news) ?yX ?yB ?yF ?yN ?yT ?yk ?yC ?y37 ?yD ?yi ?yb ?yl ?yn ?y2 ?y3 ?yd ?yu ?_; (case yX => k_asm); (case yB => k_asm); (case yF => k_asm); (case yN => exact cb_drop (by assumption) (by k_allIn)); (case yT => k_asm); (case yk => exact rfl); (case yC => k_asm); (case yD => exact .head _); (case y37 => exact List.forall_mem_cons.mpr ⟨by k_ne, List.forall_mem_cons.mpr ⟨by k_ne, h37⟩⟩); (case yi => assumption); (case yb => assumption); (case yl => assumption); (case yn => exact Eq.refl (Nat.cast _)); (case y2 => omega); (case y3 => omega); (case yd => ktr_room); (case yu => ktr_units))
    intro v c' oc vc tc u2 hZ tkZ hv0 FZ NZ lZ lZ2 dZ1 dZ2
    k_lt lZ
    (try dsimp only)
    (try k_fold)
    k_steps
    refine hret _ _ _ _ c' oc _ tc _ _ (by assumption) (cb_drop (by assumption) (by k_allIn)) ?_ lZ2 ?_ dZ1 dZ2
    · exact allLt_lt lZ.2.2
    · omega
end
end Mine02

namespace Mine02
section
local macro_rules | `(tactic| walk_at "ite") => `(tactic| (k_here; k_openite; first | (refine ite_pos (by (simp only [beq_iff_eq, bne_iff_ne, decide_eq_true_eq]; omega)) ?_) | (refine ite_neg (by (simp only [beq_iff_eq, bne_iff_ne, decide_eq_true_eq]; omega)) ?_)))
local macro_rules | `(tactic| walk_at "call ref") => `(tactic| (k_here; k_dflt (refine' dp_f ?X ?B ?F ?N ?T ?hk ?c1 ?c2 ?g1 ?g2 ?a ?b ?c ?d ?hd ?hu ?_; (case X => k_asm); (case B => k_asm); (case F => k_asm); (case N => k_asm); (case T => k_asm); (case hk => first | exact rfl | assumption); (case c1 => k_asm); (case c2 => k_asm); (case g1 => assumption); (case g2 => assumption); (case a => omega); (case b => omega); (case c => omega); (case d => omega); (case hd => ktr_room); (case hu => ktr_units)); intro T9 q9 t9 u9 c9 oc9 vc9 tc9 h9 tk9 F9 N9 la9 lb9 lc9 d9 e9; (try dsimp only); (try k_fold)))
local macro_rules | `(tactic| cell_enter) => `(tactic| (refine' code_def ?k1 ?k2 ?k3 ?k4 ?k5 ?kA ?kF ?kK ?k6 ?k7 ?k8 ?k9 ?kB ?_ ?c2 ?c3 ?c4 ?c5; (case kA => exact rfl); (case kF => exact rfl); (case kK => assumption); (case k1 => k_asm); (case k2 => k_asm); (case k3 => k_asm); (case k4 => k_asm); (case k5 => k_asm); (case k6 => k_is); (case k7 => k_is); (case k8 => ktr_room); (case k9 => first | exact BindsTo.of_eq rfl | exact kp_binds (by k_in) (fun _ => rfl)); (case c5 => decide); (case kB => exact locs rfl); (case c2 => exact rfl); (case c3 => exact rfl); (case c4 => exact rfl); k_whole; intro g' L' h' FG' F' N' B' X' T'; (try dsimp only); (try k_lift B'); (try k_fold)))
set_option maxRecDepth 100000 in
set_option maxHeartbeats 8000000 in
theorem id_f {w : World} {loose : List Str} {mean : ExcName → Option Value} {mg mb : Str → Option Value} {dp un : Nat} {gd : Option (List Code)} {cn : Str} {cs : Scope} {a : Addr} {ccd : Value} {cl : List (Str × Addr)} {outer : List Env} {A₀ : Around} {base h₀ : Heap} {L : Addr} {m : Str → Option Value} {s : Shared} {Q E : Value → Shared → Prop} {news : List (Addr × Obj)} {x b : Int} {tx tb : Tok} :
   (Mine02.hd.heap_39 w.params).In h₀ → Below A₀ base outer h₀ → Fr h₀ L s.heap m → News h₀ L s.heap ((37, tabObj #[]) :: news) → Top topProg loose mean mg mb h₀ → cs.kind = .function → CodeHd base 34 30 → CodeHd base 41 37 → GI news → (∀ p ∈ news, p.1 ≠ 37) → 0 ≤ x → x < 2 ^ 40 → 0 < b → b < 2 ^ 30 → dp + 303 < recursionLimit → un + 3200 < cLine →
   (∀ T q t u c' oc vc tc h' tk', Fr h₀ L h' m → News h₀ L h' ((T, tup2 q t (x % b) u) :: (37, tabObj #[rawInt 47, rawInt 4, .ref c']) :: (c', oc) :: news) → (∀ p ∈ news, p.1 < c') → @LT.lt Nat _ 37 c' → @LT.lt Nat _ c' T → oc.data = .fields vc → vc[1]? = some (.str (Str.ofString "_digits2int.<locals>.inner") tc) → Q (.ref T) { s with heap := h', toks := tk' }) →
   wpAny (model PySem.Challenge.rw_gy0003_02.row.prog w) (ktrTop dp un gd cn cs L a ccd cl outer) (call (.ref 56) [.int x tx, .int b tb]) Q E s := by
  k_fill
  intro X B F N T hk hC hC2 hGI h37 hx0 hx hb hb2 hd hu hret
  have hM := kstMark
  refine wpAny_call ?_
  k_dflt cell_enter
  k_steps
  exact hret _ _ _ _ _ _ _ _ _ _ (by assumption) (by assumption) (by assumption) (by assumption) (by assumption) (by assumption) (by assumption)
end
end Mine02

namespace Mine02
section
local macro_rules | `(tactic| k_memK) => `(tactic| first | exact List.Mem.head _ | (refine List.Mem.tail _ ?_; k_memK) | assumption)
local macro_rules | `(tactic| k_mem) => `(tactic| first | exact List.Mem.head _ | (refine List.Mem.tail _ ?_; k_mem) | assumption)
local macro_rules | `(tactic| k_all) => `(tactic| first | assumption | (refine allLt_ne ?_; first | assumption | exact And.right (by assumption) | exact And.right (And.right (by assumption)) | exact And.right (And.right (And.right (by assumption))) | exact And.right (And.right (And.right (And.right (by assumption)))) | exact And.right (And.right (And.right (And.right (And.right (by assumption)))))) | exact lt_ne (by assumption) (by omega))
local macro_rules | `(tactic| k_updF) => `(tactic| first | assumption | (refine' UpdF.head ?a; (case a => k_all)) | (refine' UpdF.tail ?a ?b; (case a => k_ne); (case b => k_updF)))
local macro_rules | `(tactic| k_ownIn) => `(tactic| first | assumption | (refine List.Mem.tail _ ?_; k_ownIn))
local macro_rules | `(tactic| k_allIn) => `(tactic| first | (refine List.forall_mem_cons.mpr ⟨by k_memK, ?_⟩; k_allIn) | (intro p hp; k_ownIn))
local macro_rules | `(tactic| walk_at "call ref") => `(tactic| (k_here; k_dflt (refine' i2_f ?X ?B ?F ?N ?T ?hk ?hC ?g1 ?h0 ?h1 ?hn ?h2 ?h3 ?h4 ?h5 ?h6 ?h7 ?hd ?hu ?_; (case X => k_asm); (case B => k_asm); (case F => k_asm); (case N => k_asm); (case T => k_asm); (case hk => first | exact rfl | assumption); (case hC => k_asm); (case g1 => assumption); (case h0 => omega); (case h1 => omega); (case hn => assumption); (case h2 => omega); (case h3 => omega); (case h4 => assumption); (case h5 => assumption); (case h6 => assumption); (case h7 => assumption); (case hd => ktr_room); (case hu => ktr_units)); intro D9 vs9 cp9 c9 oc9 vc9 tc9 h9 tk9 i9 F9 N9 la9 lb9 lc9 d9 e9; (try k_lt la9); (try dsimp only); (try k_fold)))
local macro_rules | `(tactic| walk_at "call builtin:list.append") => `(tactic| (k_here; k_dflt (refine' append_my ?F ?N ?U ?z ?_; (case F => k_asm); (case N => k_asm); (case U => k_updF); (case z => omega)); intro h9 F9 N9; (try dsimp only at N9); (try k_sweep)))
local macro_rules | `(tactic| walk_at "exec For Name Subscript cons nil") => `(tactic| (k_here; (rename Fr _ _ _ _ => lF'); (with_unfolding_all refine' For_invVF lF' ?k1 ?k2 ?_; (case k1 => exact rfl); (case k2 => exact rfl); k_whole)))
local macro_rules | `(tactic| walk_at "call ref") => `(tactic| (k_here; k_dflt (refine' id_b ?X ?B ?F ?N ?T ?hk ?c1 ?c2 ?g1 ?g2 ?a ?b ?c ?d ?hd ?hu ?_; (case X => k_asm); (case B => k_asm); (case F => k_asm); (case N => k_asm); (case T => k_asm); (case hk => first | exact rfl | assumption); (case c1 => k_asm); (case c2 => k_asm); (case g1 => repeat (first | assumption | refine GI.cons ?_)); (case g2 => repeat (first | assumption | refine GD.cons ?_)); (case a => first | assumption | omega); (case b => first | assumption | omega); (case c => omega); (case d => omega); (case hd => ktr_room); (case hu => ktr_units)); intro T9 q9 t9 u9 h9 tk9 F9 N9 l9; (try k_lt l9); (try dsimp only); (try k_fold)))
local macro_rules | `(tactic| walk_at "pyIter ref") => `(tactic| (k_here; refine Stop.out ?_))
local macro_rules | `(tactic| walk_at "subscriptTail Name Slice ref ref") => `(tactic| (k_here; k_dflt (refine' rev_my ?F ?N ?l ?k ?i ?z ?_ ?s ?t; (case F => k_asm); (case N => k_asm); (case l => k_mem); (case k => exact IsPart.int _ _); (case i => assumption); (case s => with_unfolding_all rfl); (case t => intro _; rfl); (case z => (have hL9 := IntsAre.length (by assumption)); (rw [digs_len] at hL9); omega)); intro D9 vs9 h9 F9 N9 l9 i9; (try k_lt l9)))
local macro_rules | `(tactic| walk_at "ite") => `(tactic| (k_here; k_openite; first | (refine ite_pos (by (simp only [beq_iff_eq, bne_iff_ne, decide_eq_true_eq]; omega)) ?_) | (refine ite_neg (by (simp only [beq_iff_eq, bne_iff_ne, decide_eq_true_eq]; omega)) ?_)))
local macro_rules | `(tactic| cell_enter) => `(tactic| (refine' code_def ?k1 ?k2 ?k3 ?k4 ?k5 ?kA ?kF ?kK ?k6 ?k7 ?k8 ?k9 ?kB ?_ ?c2 ?c3 ?c4 ?c5; (case kA => exact rfl); (case kF => exact rfl); (case kK => assumption); (case k1 => k_asm); (case k2 => k_asm); (case k3 => k_asm); (case k4 => k_asm); (case k5 => k_asm); (case k6 => k_is); (case k7 => k_is); (case k8 => ktr_room); (case k9 => first | exact BindsTo.of_eq rfl | exact kp_binds (by k_in) (fun _ => rfl)); (case c5 => decide); (case kB => exact locs rfl); (case c2 => exact rfl); (case c3 => exact rfl); (case c4 => exact rfl); k_whole; intro g' L' h' FG' F' N' B' X' T'; (try dsimp only); (try k_lift B'); (try k_fold)))
set_option maxRecDepth 100000 in
set_option maxHeartbeats 8000000 in
theorem lw_f {w : World} {loose : List Str} {mean : ExcName → Option Value} {mg mb : Str → Option Value} {dp un : Nat} {gd : Option (List Code)} {cn : Str} {cs : Scope} {a : Addr} {ccd : Value} {cl : List (Str × Addr)} {outer : List Env} {A₀ : Around} {base h₀ : Heap} {L : Addr} {m : Str → Option Value} {s : Shared} {Q E : Value → Shared → Prop} {news : List (Addr × Obj)} {g pw p : Int} {tg tw tp : Tok} :
   (Mine02.hd.heap_39 w.params).In h₀ → Below A₀ base outer h₀ → Fr h₀ L s.heap m → News h₀ L s.heap ((30, tabObj #[]) :: news) → Top topProg loose mean mg mb h₀ → cs.kind = .function → CodeHd base 34 30 → CodeHd base 41 37 → (∀ p ∈ news, p.1 ≠ 30) → pw = 0 → 0 ≤ g → g < 16 → 0 ≤ pw → pw < 1000 → 0 < p → p < 16 → dp + 320 < recursionLimit → un + 3300 < cLine →
   (∀ t c' oc vc tc h' tk', Fr h₀ L h' m → News h₀ L h' ((30, tabObj #[rawInt 32, rawInt 4, .ref c']) :: (c', oc) :: news) → (∀ p ∈ news, p.1 < c') → @LT.lt Nat _ 30 c' → oc.data = .fields vc → vc[1]? = some (.str (Str.ofString "_int2digits.<locals>.inner") tc) → Q (.int (powF g pw p) t) { s with heap := h', toks := tk' }) →
   wpAny (model PySem.Challenge.rw_gy0003_02.row.prog w) (ktrTop dp un gd cn cs L a ccd cl outer) (call (.ref 81) [.int g tg, .int pw tw, .int p tp]) Q E s := by
  k_fill
  intro X B F N T hk hC hC2 h30 hpw hg0 hg hw0 hw hp hp2 hd hu hret
  have hM := kstMark
  have hone : (1 : Int) = ((1 : Nat) : Int) := rfl
  obtain ⟨k, hk1, hk2, hk3, hk4⟩ := dig_count (x := pw) (nb := 1) hw0 (by omega) (by decide) (by decide)
  have hkk : k = Builtin.Int.intBits pw := by
    have e : ((Builtin.Int.intBits pw : Int) + ((1 : Nat) : Int) - 1) = (Builtin.Int.intBits pw : Int) := by omega
    rw [e, Int.fdiv_eq_ediv_of_nonneg _ (by decide)] at hk1
    omega
  refine wpAny_call ?_
  k_dflt cell_enter
  k_steps
  refine Stop.intro ?_
  (rename News _ _ _ _ => N2)
  (rename Fr _ _ _ _ => F2)
  refine name_four N2 ?_
  rintro D2 D1 c1 vs2 oc1 rfl rfl rfl rfl rfl
  have hi2 : IntsAre vs2 (digs 1 k pw).reverse := by assumption
  obtain rfl : k = 0 := hk4.mpr hpw
  have N3 : News _ _ _ ((D2, listOf vs2.toArray 0) :: (30, tabObj #[rawInt 32, rawInt 4, .ref c1]) :: (c1, oc1) :: news) := cb_drop N2 (by k_allIn)
  (with_unfolding_all refine' lp_list (σ := Int × Tok) (ax := D2) (vs := vs2) (nn := 0) (fun _ => (D2, listOf vs2.toArray 0) :: (30, tabObj #[rawInt 32, rawInt 4, .ref c1]) :: (c1, oc1) :: news) (fun c => [(Str.ofString "found", .int c.1 c.2)]) [] (fun i c => c.1 = 1) (1, _) rfl ?lm hi2 F2 N3 ?lk ?lp ?lt ?ld)
  case lk => kst_all
  case lm => exact .head _
  case lp => exact rfl
  case lt =>
    rintro ⟨r, tr⟩ I it i n t u h tk hn
    simp [digs] at hn
  case ld =>
    rintro ⟨r, tr⟩ u h tk p1 F9 N9
    dsimp only at p1 F9 N9
    have p2 : r = powF g pw p := by
      unfold powF
      rw [← hkk, p1]; rfl
    subst p2
    (try k_fold)
    k_steps
    refine hret _ c1 oc1 _ _ _ _ (by assumption) (cb_drop (by assumption) (by k_allIn)) (fun p hp => ?_) (by omega) (by assumption) (by assumption)
    exact Nat.lt_trans ((by assumption : ∀ p ∈ news, p.1 < D1) p hp) (by assumption)
end
end Mine02

namespace Mine02
/-! plain: are the steps of a row unlike, way by way -/
def stepF (ns : List Int) (way k : Int) : Int := ns.getD (k + way).toNat 0 - ns.getD k.toNat 0
def unIn (ns : List Int) (way : Int) : Nat → Int → List Int → Bool
  | 0, _, _ => true
  | r + 1, k, ord => if bisL ord (stepF ns way k) < ord.length ∧ ord.getD (bisL ord (stepF ns way k)).toNat 0 = stepF ns way k then false else unIn ns way r (k + 1) (insL ord (stepF ns way k))
def unOut (ns : List Int) : Nat → Int → Bool
  | 0, _ => true
  | r + 1, way => if unIn ns way (ns.length - way).toNat 0 [] then unOut ns r (way + 1) else false
def unlikeF (ns : List Int) : Bool := unOut ns (ns.length - 1 : Int).toNat 1
theorem unOut_step {ns : List Int} {n i : Nat} (h : i < n) : unOut ns (n - i) (1 + (i : Int)) = if unIn ns (1 + (i : Int)) (ns.length - (1 + (i : Int))).toNat 0 [] then unOut ns (n - (i + 1)) (1 + ((i + 1 : Nat) : Int)) else false := by
  have e : n - i = (n - (i + 1)) + 1 := by omega
  have e2 : (1 : Int) + (i : Int) + 1 = 1 + ((i + 1 : Nat) : Int) := by omega
  rw [e, unOut, e2]
theorem unIn_step {ns ord : List Int} {way : Int} {n j : Nat} (h : j < n) : unIn ns way (n - j) (0 + (j : Int)) ord = if bisL ord (stepF ns way (0 + (j : Int))) < ord.length ∧ ord.getD (bisL ord (stepF ns way (0 + (j : Int)))).toNat 0 = stepF ns way (0 + (j : Int)) then false else unIn ns way (n - (j + 1)) (0 + ((j + 1 : Nat) : Int)) (insL ord (stepF ns way (0 + (j : Int)))) := by
  have e : n - j = (n - (j + 1)) + 1 := by omega
  have e2 : (0 : Int) + (j : Int) + 1 = 0 + ((j + 1 : Nat) : Int) := by omega
  rw [e, unIn, e2]
theorem LpPost.ret {h₀ : Heap} {L : Addr} {s₁ : Shared} {I : Addr} {it : Obj} {J : (Str → Option Value) → List (Addr × Obj) → Prop} {Q : Flow → Shared → Prop} {v : Value} {s₂ : Shared} (h : Q (.ret v) s₂) : LpPost h₀ L s₁ I it J Q (.ret v) s₂ := h
section
local macro_rules | `(tactic| k_memK) => `(tactic| first | exact List.Mem.head _ | (refine List.Mem.tail _ ?_; k_memK) | assumption)
local macro_rules | `(tactic| k_mem) => `(tactic| first | exact List.Mem.head _ | (refine List.Mem.tail _ ?_; k_mem) | assumption)
local macro_rules | `(tactic| k_all) => `(tactic| first | assumption | (refine allLt_ne ?_; first | assumption | exact And.right (by assumption) | exact And.right (And.right (by assumption)) | exact And.right (And.right (And.right (by assumption))) | exact And.right (And.right (And.right (And.right (by assumption)))) | exact And.right (And.right (And.right (And.right (And.right (by assumption)))))) | exact lt_ne (by assumption) (by omega))
local macro_rules | `(tactic| k_updF) => `(tactic| first | assumption | (refine' UpdF.head ?a; (case a => k_all)) | (refine' UpdF.tail ?a ?b; (case a => k_ne); (case b => k_updF)))
local macro_rules | `(tactic| k_ownIn) => `(tactic| first | assumption | (refine List.Mem.tail _ ?_; k_ownIn))
local macro_rules | `(tactic| k_allIn) => `(tactic| first | (refine List.forall_mem_cons.mpr ⟨by k_memK, ?_⟩; k_allIn) | (intro p hp; k_ownIn))
local macro_rules | `(tactic| walk_at "ite") => `(tactic| (k_here; k_openite; first | (refine ite_pos (by (simp only [beq_iff_eq, bne_iff_ne, decide_eq_true_eq]; omega)) ?_) | (refine ite_neg (by (simp only [beq_iff_eq, bne_iff_ne, decide_eq_true_eq]; omega)) ?_)))
local macro_rules | `(tactic| walk_at "LpPost") => `(tactic| (refine LpPost.ret ?_))
local macro_rules | `(tactic| walk_at "call builtin:len") => `(tactic| (k_here; k_dflt (refine' len_my ?N ?m ?s ?f ?_; (case N => k_asm); (case m => k_mem); (case s => assumption); (case f => omega))))
local macro_rules | `(tactic| walk_at "subscriptTail") => `(tactic| (k_here; (with_reducible show wpAny _ _ (subscriptTail _ _ (Value.ref _) (Value.int _ _)) _ _ _); k_dflt (refine' ksa_sub ?k1 ?k2 ?k3 ?k4 ?k5 ?k6 ?_ ?k7; (case k1 => k_asm); (case k2 => k_mem); (case k3 => assumption); (case k4 => omega); (case k5 => omega); (case k6 => omega); (case k7 => with_unfolding_all rfl)); intro t9))
local macro_rules | `(tactic| walk_at "call ref") => `(tactic| (k_here; k_dflt (refine' ins_c ?X ?B ?F ?N ?T ?hk ?hU ?hi ?hn ?hd ?hu ?_; (case X => k_asm); (case B => k_asm); (case F => k_asm); (case N => k_asm); (case T => k_asm); (case hk => first | exact rfl | assumption); (case hU => k_updF); (case hi => assumption); (case hn => omega); (case hd => ktr_room); (case hu => ktr_units)); intro vs9 n9 h9 tk9 i9 F9 N9; (try dsimp only at N9); (try dsimp only); (try k_fold)))
local macro_rules | `(tactic| walk_at "call ref") => `(tactic| (k_here; k_dflt (refine' bis_c ?X ?B ?F ?N ?T ?hk ?ha ?hl ?hi ?hn ?hd ?hu ?_; (case ha => first | exact .inl rfl | exact .inr ⟨_, rfl⟩); (case X => k_asm); (case B => k_asm); (case F => k_asm); (case N => k_asm); (case T => k_asm); (case hk => first | exact rfl | assumption); (case hl => k_mem); (case hi => assumption); (case hn => omega); (case hd => ktr_room); (case hu => ktr_units)); intro t9 h9 tk9 F9 N9; (try dsimp only); (try k_fold)))
local macro_rules | `(tactic| walk_at "exec For Name Call cons nil") => `(tactic| (k_here; (rename Fr _ _ _ _ => lF'); (with_unfolding_all refine' For_invVF lF' ?k1 ?k2 ?_; (case k1 => exact rfl); (case k2 => exact rfl); k_whole)))
local macro_rules | `(tactic| walk_at "pyIter ref") => `(tactic| (k_here; refine Stop.out ?_))
local macro_rules | `(tactic| cell_enter) => `(tactic| (refine' code_def ?k1 ?k2 ?k3 ?k4 ?k5 ?kA ?kF ?kK ?k6 ?k7 ?k8 ?k9 ?kB ?_ ?c2 ?c3 ?c4 ?c5; (case kA => exact rfl); (case kF => exact rfl); (case kK => assumption); (case k1 => k_asm); (case k2 => k_asm); (case k3 => k_asm); (case k4 => k_asm); (case k5 => k_asm); (case k6 => k_is); (case k7 => k_is); (case k8 => ktr_room); (case k9 => first | exact BindsTo.of_eq rfl | exact kp_binds (by k_in) (fun _ => rfl)); (case c5 => decide); (case kB => exact locs rfl); (case c2 => exact rfl); (case c3 => exact rfl); (case c4 => exact rfl); k_whole; intro g' L' h' FG' F' N' B' X' T'; (try dsimp only); (try k_lift B'); (try k_fold)))
set_option maxRecDepth 100000 in
set_option maxHeartbeats 8000000 in
theorem un_c {w : World} {loose : List Str} {mean : ExcName → Option Value} {mg mb : Str → Option Value} {dp un : Nat} {gd : Option (List Code)} {cn : Str} {cs : Scope} {a : Addr} {ccd : Value} {cl : List (Str × Addr)} {outer : List Env} {A₀ : Around} {base h₀ : Heap} {L : Addr} {m : Str → Option Value} {s : Shared} {Q E : Value → Shared → Prop} {news : List (Addr × Obj)} {D : Addr} {vs : List Value} {ns : List Int} {cap : Nat} :
   (Mine02.hd.heap_39 w.params).In h₀ → Below A₀ base outer h₀ → Fr h₀ L s.heap m → News h₀ L s.heap news → Top topProg loose mean mg mb h₀ → cs.kind = .function → (D, listOf vs.toArray cap) ∈ news → IntsAre vs ns → ns.length < 1000 → dp + 20 < recursionLimit → un + 200 < cLine →
   (∀ h' tk', Fr h₀ L h' m → News h₀ L h' news → Q (.bool (unlikeF ns)) { s with heap := h', toks := tk' }) →
   wpAny (model PySem.Challenge.rw_gy0003_02.row.prog w) (ktrTop dp un gd cn cs L a ccd cl outer) (call (.ref 88) [.ref D]) Q E s := by
  k_fill
  intro X B F N T hk hD hi hl hd hu hret
  have hM := kstMark
  have hvl := hi.length
  refine wpAny_call ?_
  k_dflt cell_enter
  k_steps
  refine Stop.intro ?_
  (rename IsRange _ _ _ _ _ _ _ _ => rg1)
  (rename Fr _ _ _ _ => F1)
  (rename News _ _ _ _ => N1)
  (with_unfolding_all refine' lp_range (σ := Unit) (n := ((ns.length : Int) - 1).toNat) (fun _ => news) (fun _ => []) [Str.ofString "order", Str.ofString "k", Str.ofString "step", Str.ofString "place"] (fun i _ => unlikeF ns = unOut ns (((ns.length : Int) - 1).toNat - i) (1 + (i : Int))) () rfl rg1 (small_one (by omega) (by omega) (by omega) (by omega)) (rangeSize_nat _ _) F1 N1 ?lk ?lp ?lt ?ld)
  case lk => kst_all
  case lp => rfl
  case lt =>
    rintro ⟨⟩ I1 it1 i t u h tk hin hP hoff F2 N2
    clear F1 N1 rg1
    dsimp only at F2 N2
    rw [unOut_step hin] at hP
    (try k_fold)
    k_steps
    refine Stop.intro ?_
    (rename IsRange _ _ _ _ _ _ _ _ => rg2)
    (rename Fr _ _ _ _ => F3)
    (rename News _ _ _ _ => N3)
    refine name_one N3 ?_
    rintro Do rfl
    have hDI : @Ne Nat Do I1 := by k_ne
    have hDn : ∀ p ∈ news, p.1 ≠ Do := allLt_ne (And.right (by assumption))
    (with_unfolding_all refine' lp_range (σ := List Value × List Int × Nat) (n := ((ns.length : Int) - (1 + (i : Int))).toNat) (fun c => (Do, listOf c.1.toArray c.2.2) :: (I1, it1) :: news) (fun _ => []) [Str.ofString "step", Str.ofString "place"] (fun j c => IntsAre c.1 c.2.1 ∧ c.2.1.length = j ∧ unIn ns (1 + (i : Int)) ((ns.length : Int) - (1 + (i : Int))).toNat 0 [] = unIn ns (1 + (i : Int)) (((ns.length : Int) - (1 + (i : Int))).toNat - j) (0 + (j : Int)) c.2.1) ([], [], 0) rfl rg2 (small_one (by omega) (by omega) (by omega) (by omega)) ((rangeSize_nat _ _).trans (by congr 1; omega)) F3 N3 ?mk ?mp ?mt ?md)
    case mk => kst_all
    case mp => exact ⟨.nil, rfl, rfl⟩
    case mt =>
      rintro ⟨vo, os, cp⟩ I2 it2 j t2 u2 h2 tk2 hjn ⟨q1, q2, q3⟩ hoff2 F4 N4
      clear F3 N3 rg2
      dsimp only at q1 q2 q3 F4 N4
      rw [unIn_step hjn] at q3
      have hb := bisL_le os (stepF ns (1 + (i : Int)) (0 + (j : Int)))
      have hvo := q1.length
      have hD2 : @Ne Nat Do I2 := hoff2 _ (.head _)
      have hI12 : @Ne Nat I1 I2 := hoff2 _ (.tail _ (.head _))
      have hn2 : ∀ p ∈ news, p.1 ≠ I2 := fun p hp => hoff2 p (.tail _ (.tail _ hp))
      by_cases c1 : bisL os (stepF ns (1 + (i : Int)) (0 + (j : Int))) < os.length
      · by_cases c2 : os.getD (bisL os (stepF ns (1 + (i : Int)) (0 + (j : Int)))).toNat 0 = stepF ns (1 + (i : Int)) (0 + (j : Int))
        · rw [if_pos ⟨c1, c2⟩] at q3
          rw [q3, if_neg (by decide)] at hP
          rw [hP] at hret
          unfold stepF at c1 c2 hb
          (try k_fold)
          k_steps
          exact hret _ _ (by assumption) (cb_drop (by assumption) (by k_allIn))
        · rw [if_neg (fun q => c2 q.2)] at q3
          unfold stepF at c1 c2 hb
          (try k_fold)
          k_steps
          refine' LpPost.next (_, insL os (stepF ns (1 + (i : Int)) (0 + (j : Int))), _) (by assumption) (by assumption) ?zP ?zs ?zo ?zk ?zh
          case zk => kst_all
          case zs => k_allIn
          case zo => exact List.forall_mem_cons.mpr ⟨hD2, List.forall_mem_cons.mpr ⟨hI12, hn2⟩⟩
          case zh =>
            intro z h1 h2 h3
            have h4 : z ≠ Str.ofString "step" ∧ z ≠ Str.ofString "place" := by simpa using h3
            simp [kstB, h1, h4.1, h4.2]
          case zP => exact ⟨by assumption, by rw [insL_len, q2], q3⟩
      · rw [if_neg (fun q => c1 q.1)] at q3
        unfold stepF at c1 hb
        (try k_fold)
        k_steps
        refine' LpPost.next (_, insL os (stepF ns (1 + (i : Int)) (0 + (j : Int))), _) (by assumption) (by assumption) ?zP ?zs ?zo ?zk ?zh
        case zk => kst_all
        case zs => k_allIn
        case zo => exact List.forall_mem_cons.mpr ⟨hD2, List.forall_mem_cons.mpr ⟨hI12, hn2⟩⟩
        case zh =>
          intro z h1 h2 h3
          have h4 : z ≠ Str.ofString "step" ∧ z ≠ Str.ofString "place" := by simpa using h3
          simp [kstB, h1, h4.1, h4.2]
        case zP => exact ⟨by assumption, by rw [insL_len, q2], q3⟩
    case md =>
      rintro ⟨vo, os, cp⟩ u2 h2 tk2 ⟨q1, q2, q3⟩ F4 N4
      dsimp only at q1 q2 q3 F4 N4
      rw [Nat.sub_self, unIn] at q3
      rw [q3, if_pos rfl] at hP
      (try k_fold)
      k_steps
      refine' LpPost.next () (by assumption) (by assumption) ?zP ?zs ?zo ?zk ?zh
      case zk => kst_all
      case zs => k_allIn
      case zo => exact hoff
      case zh =>
        intro z h1 h2 h3
        have h4 : z ≠ Str.ofString "order" ∧ z ≠ Str.ofString "k" ∧ z ≠ Str.ofString "step" ∧ z ≠ Str.ofString "place" := by simpa using h3
        simp [kstB, h1, h4.1, h4.2.1, h4.2.2.1, h4.2.2.2]
      case zP => exact hP
  case ld =>
    rintro ⟨⟩ u h tk hP F2 N2
    dsimp only at F2 N2
    rw [Nat.sub_self, unOut] at hP
    rw [hP] at hret
    (try k_fold)
    k_steps
    exact hret _ _ (by assumption) (by assumption)
end
end Mine02

namespace Mine02
/-! the plain law: sixty cases -/
def hereF (p g f : Int) : Nat → Int
  | 0 => f
  | k + 1 => (hereF p g f k * g) % p
def rowF (p g f : Int) (n : Nat) : List Int := (List.range n).map (hereF p g f)
theorem rowF_succ {p g f : Int} {n : Nat} : rowF p g f (n + 1) = rowF p g f n ++ [hereF p g f n] := by simp [rowF, List.range_succ]
theorem rowF_len {p g f : Int} {n : Nat} : (rowF p g f n).length = n := by simp [rowF]
def casesOf (p : Int) (gs : List Int) : List (Int × Int × Int) := gs.flatMap fun g => (List.range (p - 1).toNat).map fun (i : Nat) => (p, g, 1 + (i : Int))
def cases60 : List (Int × Int × Int) := casesOf 5 [2, 3] ++ casesOf 7 [3, 5] ++ casesOf 11 [2, 6, 7, 8]
theorem case_mem {p g y : Int} {gs : List Int} (hg : g ∈ gs) (h0 : 0 ≤ y) (h1 : y < p - 1) : (p, g, 1 + y) ∈ casesOf p gs := by
  refine List.mem_flatMap.mpr ⟨g, hg, List.mem_map.mpr ⟨y.toNat, List.mem_range.mpr (by omega), ?_⟩⟩
  rw [Int.toNat_of_nonneg h0]
def chkA (p g f : Int) : Bool := (List.range (p - 1).toNat).all fun i => hereF p g f i == (f * powF g (0 + (i : Int)) p).fmod p
def chkB (p g f : Int) : Bool := (List.range ((p - 1).toNat + 1)).all fun i => 0 ≤ hereF p g f i && hereF p g f i < 16
theorem all60 : (cases60.all fun c => chkA c.1 c.2.1 c.2.2 && chkB c.1 c.2.1 c.2.2 && (hereF c.1 c.2.1 c.2.2 (c.1 - 1).toNat == c.2.2) && (0 ≤ c.2.1 && c.2.1 < 16 && 1 ≤ c.2.2 && c.2.2 < 16)) = true := by decide +kernel
structure Case (p g f : Int) : Prop where
  eq : ∀ i : Nat, i < (p - 1).toNat → hereF p g f i = (f * powF g (0 + (i : Int)) p).fmod p
  lo : ∀ i : Nat, i ≤ (p - 1).toNat → 0 ≤ hereF p g f i ∧ hereF p g f i < 16
  back : hereF p g f (p - 1).toNat = f
  g0 : 0 ≤ g
  g1 : g < 16
  f0 : 1 ≤ f
  f1 : f < 16
theorem case_of {p g f : Int} (h : (p, g, f) ∈ cases60) : Case p g f := by
  have hc := List.all_eq_true.mp all60 _ h
  simp only [Bool.and_eq_true, beq_iff_eq, decide_eq_true_eq] at hc
  obtain ⟨⟨⟨ha, hb⟩, hc⟩, hd⟩ := hc
  refine ⟨fun i hi => ?_, fun i hi => ?_, hc, hd.1.1.1, hd.1.1.2, hd.1.2, hd.2⟩
  · have := List.all_eq_true.mp ha i (List.mem_range.mpr hi)
    simpa using this
  · have := List.all_eq_true.mp hb i (List.mem_range.mpr (by omega))
    simpa using this
end Mine02

namespace Mine02
/-! comprehensions turn by turn, with an invariant, over the library's own -/
def CpEnd (h₀ : Heap) (L : Addr) (m : Str → Option Value) (s₁ : Shared) (I : Addr) (oI : Obj) (C : Addr) (oC : Obj) (D : Addr) (oD : Obj) (S : List (Addr × Obj) → Prop) (J : Value → List (Addr × Obj) → Prop) (y : Value) (s₂ : Shared) : Prop := LCg.CompEnd h₀ L m s₁ I oI C oC D oD S J y s₂
section
variable {prog : Program} {w : World} {A : Around} {s : Shared} {h₀ : Heap} {L : Addr} {m : Str → Option Value} {env : Env}
theorem CpEnd.put {σ : Type} {Led : σ → List (Addr × Obj)} {P : List Value → σ → Prop} {I C D : Addr} {oI oC oD : Obj} {S : List (Addr × Obj) → Prop} {s₁ : Shared} {h' : Heap} {tk : Nat} {all : List (Addr × Obj)} {ys : List Value} {y : Value} (c : σ)
    (F : Fr h₀ L h' m) (N : News h₀ L h' all) (sub : ∀ p ∈ (I, oI) :: (C, oC) :: (D, oD) :: Led c, p ∈ all) (off : ∀ p ∈ Led c, p.1 ≠ I ∧ p.1 ≠ C ∧ p.1 ≠ D) (hS : S (Led c)) (hP : P (ys ++ [y]) c) :
    CpEnd h₀ L m s₁ I oI C oC D oD S (fun y nx => ∃ c', nx = Led c' ∧ P (ys ++ [y]) c') y { s₁ with heap := h', toks := tk } :=
  LCg.CompEnd.intro F N (Led c) sub (LCg.Off3.of off) hS ⟨c, rfl, hP⟩
theorem cp_rest {σ : Type} {elt : PySem.Expr} {x : Str} {scope : Scope} {cl : List (Str × Addr)} {S : List (Addr × Obj) → Prop} {V : Nat → Value → Prop} {Fin : List Value → List (Addr × Obj) → Prop} {n : Nat} (Led : σ → List (Addr × Obj)) (P : Nat → List Value → σ → Prop)
    (turn : ∀ (c : σ) i ys v I oI C oC D m₂ h tk (E' : Value → Shared → Prop), i < n → V i v → P i ys c → LCg.NsObj oC m₂ → m₂ x = some v → Fr h₀ L h m → News h₀ L h ((I, oI) :: (C, oC) :: (D, LCg.lst ys) :: Led c) → (∀ p ∈ Led c, p.1 ≠ I ∧ p.1 ≠ C ∧ p.1 ≠ D) → ((@Ne Nat I C) ∧ (@Ne Nat I D) ∧ (@Ne Nat C D)) →
      wpAny (model prog w) A (eval elt (compEnvC scope cl C env)) (CpEnd h₀ L m { s with heap := h, toks := tk } I oI C oC D (LCg.lst ys) S (fun y nx => ∃ c', nx = Led c' ∧ P (i + 1) (ys ++ [y]) c')) E' { s with heap := h, toks := tk })
    (done : ∀ (c : σ) ys, P n ys c → Fin ys (Led c)) :
    ∀ (k i : Nat) (ys : List Value) (c : σ), i + k = n → P i ys c → LCg.CompRest prog w A h₀ L m env elt x scope cl s S V Fin k i ys (Led c) := by
  intro k
  induction k with
  | zero =>
    intro i ys c hi hP
    obtain rfl : i = n := by omega
    exact LCg.CompRest.zero (done c ys hP)
  | succ k ih =>
    intro i ys c hi hP
    refine LCg.CompRest.succ fun v I oI C oC D m₂ h tk E' hv hC hx F N off ne => wpAny_mono (turn c i ys v I oI C oC D m₂ h tk E' (by omega) hv hP hC hx F N (LCg.Off3.mem off) ne) (fun y s₂ p => ?_) fun _ _ e => e
    obtain ⟨h', tk', nx, e, F', N', o', S', c', rfl, hP'⟩ := p
    exact ⟨h', tk', Led c', e, F', N', o', S', ih (i + 1) _ c' (by omega) hP'⟩
end
theorem ints_snoc {ys : List Value} {ns : List Int} {y : Int} {t : Tok} (h : IntsAre ys ns) : IntsAre (ys ++ [.int y t]) (ns ++ [y]) := h.append (.cons y t .nil)
theorem ints_at {vs : List Value} {ns : List Int} {i : Nat} {v : Value} (h : IntsAre vs ns) (e : vs.toArray[i]? = some v) : ∃ n t, ns[i]? = some n ∧ v = .int n t := by
  have e' : vs[i]? = some v := by simpa using e
  have hlt : i < vs.length := by
    rcases Nat.lt_or_ge i vs.length with hl | hl
    · exact hl
    · rw [List.getElem?_eq_none hl] at e'; cases e'
  have hlt' : i < ns.length := by have := h.length; omega
  obtain ⟨t, hx⟩ := h.get i ns[i] (by simp [hlt'])
  rw [e'] at hx
  exact ⟨_, t, by simp [hlt'], Option.some.inj hx⟩
theorem index_my {prog : Program} {w : World} {A : Around} {E : Value → Shared → Prop} {s : Shared} {h₀ : Heap} {L l : Addr} {news : List (Addr × Obj)} {vs : List Value} {ns : List Int} {n : Nat} {k : Int} {t : Tok} {Q : Value → Shared → Prop} (N : News h₀ L s.heap news) (hm : (l, listOf vs.toArray n) ∈ news) (hi : IntsAre vs ns)
    (hz : ns.length < 2 ^ 20) (hk : k ∈ ns) (h : ∀ tk, Q (.int (ns.idxOf k : Nat) tk) { s with toks := s.toks + 1 }) :
    wpAny (model prog w) A (call (.builtin "list.index") [.ref l, .int k t]) Q E s := by
  have hlen := hi.length
  have hj : ns.idxOf k < ns.length := List.idxOf_lt_length_iff.mpr hk
  refine call_meets PySem.F.slot_list_index ⟨_, (N _ hm).1, rfl⟩ PySem.F.entry_list_index (PySem.F.args_list_index_2 _ _)
    (MeetsSeq.list_index l vs.toArray n (.int k t) (isInt k) (fun y hy => eq_isInt k t hi y (by simpa using hy)) (ns.idxOf k) (by simpa [hlen] using hj) (by omega) ?_ ?_) ⟨(N _ hm).1, h _⟩
  · show isInt k vs[ns.idxOf k] = true
    rw [isInt_at k hi _ (by omega) hj]
    simpa using List.getElem_idxOf hj
  · intro j hjs hlt
    show isInt k vs[j] = false
    rw [isInt_at k hi j (by simpa using hjs) (by omega)]
    exact ne_of_lt_idxOf hlt _
theorem sorted_my {prog : Program} {w : World} {A : Around} {E : Value → Shared → Prop} {s : Shared} {h₀ : Heap} {L l : Addr} {m : Str → Option Value} {news : List (Addr × Obj)} {vs : List Value} {ns tgt : List Int} {n : Nat} {Q : Value → Shared → Prop} (F : Fr h₀ L s.heap m) (N : News h₀ L s.heap news) (hm : (l, listOf vs.toArray n) ∈ news) (hi : IntsAre vs ns)
    (hz : ns.length < 64) (hp : ns.Perm tgt) (ho : tgt.Pairwise (· ≤ ·)) (h : ∀ D vs' c h', Fr h₀ L h' m → News h₀ L h' ((D, listOf vs'.toArray c) :: news) → (∀ q ∈ news, q.1 < D) → IntsAre vs' tgt → Q (.ref D) { s with heap := h' }) :
    wpAny (model prog w) A (call (.builtin "sorted") [.ref l]) Q E s :=
  kso_sorted F N (News.isList N hm) hi hz fun D vs' ns' c h' F' N' l1 hi' _ p o _ => h D vs' c h' F' N' l1 (by
    have := ksm_same (p.trans hp) o ho
    rw [← this]; exact hi')
theorem rangeKs_sorted (a : Int) : ∀ n : Nat, (rangeKs a n).Pairwise (· ≤ ·) := by
  intro n
  unfold rangeKs
  rw [List.pairwise_map]
  exact List.Pairwise.imp (fun h => by omega) List.pairwise_lt_range
theorem ne_my {prog : Program} {w : World} {A : Around} {E : Value → Shared → Prop} {s : Shared} {h₀ : Heap} {L a b : Addr} {news : List (Addr × Obj)} {vs us : List Value} {ns ms : List Int} {c d : Nat} {Q : Value → Shared → Prop} (N : News h₀ L s.heap news) (ha : (a, listOf vs.toArray c) ∈ news) (hb : (b, listOf us.toArray d) ∈ news) (hi : IntsAre vs ns) (hj : IntsAre us ms) (hu : A.units + 64 < cLine) (e : ns = ms)
    (h : Q (.bool false) s) : wpAny (model prog w) A (compareOp .NotEq (.ref a) (.ref b)) Q E s :=
  ne_intsK (News.isList N ha) hi (News.isList N hb) hj hu (by simpa [e] using h)
theorem list_range_my {prog : Program} {w : World} {A : Around} {E : Value → Shared → Prop} {s : Shared} {h₀ : Heap} {L r : Addr} {m : Str → Option Value} {news : List (Addr × Obj)} {a b : Int} {t₀ u₀ v₀ : Tok} {n : Nat} {Q : Value → Shared → Prop} (hh : A.handled = none) (F : Fr h₀ L s.heap m) (N : News h₀ L s.heap news) (hr : IsRange s.heap r a b 1 t₀ u₀ v₀) (h1 : -1000 ≤ a) (h2 : a ≤ b) (h3 : b ≤ 1000) (e : (b - a).toNat = n)
    (h : ∀ D us c h' tk, Fr h₀ L h' m → News h₀ L h' ((D, listOf (List.toArray us) c) :: news) → (∀ p ∈ news, p.1 < D) → IntsAre us (rangeKs a n) → Q (.ref D) { s with heap := h', toks := tk }) :
    wpAny (model prog w) A (call (.type "list") [.ref r]) Q E s :=
  kll_range hh F N hr (small_one (by omega) (by omega) (by omega) (by omega)) ((rangeSize_nat _ _).trans (by rw [e])) (by omega) h
end Mine02

namespace Mine02
/-! plain: what the law asks behind its loop, in the sixty cases -/
def rootsOf (p : Int) : List Int := if p = 5 then [2, 3] else if p = 7 then [3, 5] else [2, 6, 7, 8]
def idxF (ns : List Int) (k : Int) : Int := ((ns.idxOf k : Nat) : Int)
def turnedF (ns : List Int) (n : Nat) : List Int := (rangeKs 1 n).map (idxF ns)
def movedF (ns : List Int) : List Int := ns.drop (ns.idxOf 1) ++ ns.take (ns.idxOf 1)
/-! a quicker look: the steps met so far as the bits of one number -/
def okM : List Int → List Int → Nat → Bool
  | a :: r, b :: q, mask => bif mask.testBit (b - a + 32).toNat then false else okM r q (mask ||| (1 <<< (b - a + 32).toNat))
  | _, _, _ => true
def okO (l : List Int) : List Int → Bool
  | [] => true
  | b :: q => okM l (b :: q) 0 && okO l q
def okF (l : List Int) : Bool := okO l l.tail
theorem insL_mem {ns : List Int} {x y : Int} (h : y ∈ insL ns x) : y ∈ ns ∨ y = x := by
  unfold insL at h
  rcases List.mem_append.mp h with h | h
  · exact .inl (List.mem_of_mem_take h)
  · rcases List.mem_cons.mp h with h | h
    · exact .inr h
    · exact .inl (List.mem_of_mem_drop h)
theorem okM_un (ns : List Int) (way : Nat) : ∀ (r k : Nat) (ord : List Int) (mask : Nat), k + way + r = ns.length → (∀ y ∈ ord, mask.testBit (y + 32).toNat = true) → okM (ns.drop k) (ns.drop (k + way)) mask = true → unIn ns way r k ord = true
  | 0, _, _, _, _, _, _ => rfl
  | r + 1, k, ord, mask, hl, hm, ho => by
    have h1 : k < ns.length := by omega
    have h2 : k + way < ns.length := by omega
    rw [List.drop_eq_getElem_cons h1, List.drop_eq_getElem_cons h2, okM] at ho
    have e1 : stepF ns way k = ns[k + way] - ns[k] := by
      unfold stepF
      rw [show ((k : Int) + (way : Int)).toNat = k + way by omega, show (k : Int).toNat = k by omega]
      simp [h1, h2]
    rw [← e1] at ho
    by_cases hb : mask.testBit (stepF ns way k + 32).toNat = true
    · rw [hb, cond_true] at ho; cases ho
    · rw [Bool.not_eq_true] at hb
      rw [hb, cond_false] at ho
      rw [unIn]
      have hn : ¬ (bisL ord (stepF ns way k) < ord.length ∧ ord.getD (bisL ord (stepF ns way k)).toNat 0 = stepF ns way k) := by
        rintro ⟨q1, q2⟩
        have hp := bisL_le ord (stepF ns way k)
        have hlt : (bisL ord (stepF ns way k)).toNat < ord.length := by omega
        have hmem : stepF ns way k ∈ ord := by
          rw [← q2, List.getD_eq_getElem?_getD, List.getElem?_eq_getElem hlt]
          exact List.getElem_mem hlt
        rw [hm _ hmem] at hb; cases hb
      rw [if_neg hn]
      refine okM_un ns way r (k + 1) _ _ (by omega) (fun y hy => ?_) (by rw [show k + 1 + way = k + way + 1 by omega]; exact ho)
      rw [Nat.testBit_or, Bool.or_eq_true]
      rcases insL_mem hy with hy | rfl
      · exact .inl (hm y hy)
      · exact .inr (by rw [Nat.testBit_shiftLeft]; simp)
theorem okO_un (ns : List Int) : ∀ (r way : Nat), way + r = ns.length → okO ns (ns.drop way) = true → unOut ns r way = true
  | 0, _, _, _ => rfl
  | r + 1, way, hl, ho => by
    rw [List.drop_eq_getElem_cons (by omega : way < ns.length), okO, Bool.and_eq_true, ← List.drop_eq_getElem_cons] at ho
    rw [unOut, show ((ns.length : Int) - (way : Int)).toNat = ns.length - way by omega]
    have h1 : unIn ns way (ns.length - way) 0 [] = true := okM_un ns way (ns.length - way) 0 [] 0 (by omega) (fun y hy => nomatch hy) (by rw [List.drop_zero, Nat.zero_add]; exact ho.1)
    rw [h1, if_pos rfl]
    exact okO_un ns r (way + 1) (by omega) ho.2
theorem okF_un {ns : List Int} (h : okF ns = true) : unlikeF ns = true := by
  unfold unlikeF
  by_cases h0 : ns.length = 0
  · rw [show ((ns.length : Int) - 1).toNat = 0 by omega]; rfl
  · exact okO_un ns _ 1 (by omega) (by rw [List.drop_one]; exact h)
def rows60 : List (Int × List Int) := [(5, [1, 2, 4, 3]), (5, [2, 4, 3, 1]), (5, [3, 1, 2, 4]), (5, [4, 3, 1, 2]), (5, [1, 3, 4, 2]), (5, [2, 1, 3, 4]), (5, [3, 4, 2, 1]), (5, [4, 2, 1, 3]), (7, [1, 3, 2, 6, 4, 5]), (7, [2, 6, 4, 5, 1, 3]), (7, [3, 2, 6, 4, 5, 1]), (7, [4, 5, 1, 3, 2, 6]), (7, [5, 1, 3, 2, 6, 4]), (7, [6, 4, 5, 1, 3, 2]), (7, [1, 5, 4, 6, 2, 3]), (7, [2, 3, 1, 5, 4, 6]), (7, [3, 1, 5, 4, 6, 2]), (7, [4, 6, 2, 3, 1, 5]), (7, [5, 4, 6, 2, 3, 1]), (7, [6, 2, 3, 1, 5, 4]), (11, [1, 2, 4, 8, 5, 10, 9, 7, 3, 6]), (11, [2, 4, 8, 5, 10, 9, 7, 3, 6, 1]), (11, [3, 6, 1, 2, 4, 8, 5, 10, 9, 7]), (11, [4, 8, 5, 10, 9, 7, 3, 6, 1, 2]), (11, [5, 10, 9, 7, 3, 6, 1, 2, 4, 8]), (11, [6, 1, 2, 4, 8, 5, 10, 9, 7, 3]), (11, [7, 3, 6, 1, 2, 4, 8, 5, 10, 9]), (11, [8, 5, 10, 9, 7, 3, 6, 1, 2, 4]), (11, [9, 7, 3, 6, 1, 2, 4, 8, 5, 10]), (11, [10, 9, 7, 3, 6, 1, 2, 4, 8, 5]), (11, [1, 6, 3, 7, 9, 10, 5, 8, 4, 2]), (11, [2, 1, 6, 3, 7, 9, 10, 5, 8, 4]), (11, [3, 7, 9, 10, 5, 8, 4, 2, 1, 6]), (11, [4, 2, 1, 6, 3, 7, 9, 10, 5, 8]), (11, [5, 8, 4, 2, 1, 6, 3, 7, 9, 10]), (11, [6, 3, 7, 9, 10, 5, 8, 4, 2, 1]), (11, [7, 9, 10, 5, 8, 4, 2, 1, 6, 3]), (11, [8, 4, 2, 1, 6, 3, 7, 9, 10, 5]), (11, [9, 10, 5, 8, 4, 2, 1, 6, 3, 7]), (11, [10, 5, 8, 4, 2, 1, 6, 3, 7, 9]), (11, [1, 7, 5, 2, 3, 10, 4, 6, 9, 8]), (11, [2, 3, 10, 4, 6, 9, 8, 1, 7, 5]), (11, [3, 10, 4, 6, 9, 8, 1, 7, 5, 2]), (11, [4, 6, 9, 8, 1, 7, 5, 2, 3, 10]), (11, [5, 2, 3, 10, 4, 6, 9, 8, 1, 7]), (11, [6, 9, 8, 1, 7, 5, 2, 3, 10, 4]), (11, [7, 5, 2, 3, 10, 4, 6, 9, 8, 1]), (11, [8, 1, 7, 5, 2, 3, 10, 4, 6, 9]), (11, [9, 8, 1, 7, 5, 2, 3, 10, 4, 6]), (11, [10, 4, 6, 9, 8, 1, 7, 5, 2, 3]), (11, [1, 8, 9, 6, 4, 10, 3, 2, 5, 7]), (11, [2, 5, 7, 1, 8, 9, 6, 4, 10, 3]), (11, [3, 2, 5, 7, 1, 8, 9, 6, 4, 10]), (11, [4, 10, 3, 2, 5, 7, 1, 8, 9, 6]), (11, [5, 7, 1, 8, 9, 6, 4, 10, 3, 2]), (11, [6, 4, 10, 3, 2, 5, 7, 1, 8, 9]), (11, [7, 1, 8, 9, 6, 4, 10, 3, 2, 5]), (11, [8, 9, 6, 4, 10, 3, 2, 5, 7, 1]), (11, [9, 6, 4, 10, 3, 2, 5, 7, 1, 8]), (11, [10, 3, 2, 5, 7, 1, 8, 9, 6, 4])]
def chkT (p : Int) (ns : List Int) : Bool := (ns.length == (p - 1).toNat) && decide (ns.Perm (rangeKs 1 (p - 1).toNat)) && okF ns && okF (turnedF ns (p - 1).toNat) && okF ns.reverse && okF (ns.map fun x => p - x) && okF (movedF ns) && okF (((movedF ns).drop 1).map fun x => x - 1)
theorem rows_are : (cases60.map fun c => (c.1, rowF c.1 c.2.1 c.2.2 (c.1 - 1).toNat)) = rows60 := by decide +kernel
theorem tail60 : (rows60.all fun c => chkT c.1 c.2) = true := by decide +kernel
structure Tail (p : Int) (ns : List Int) : Prop where
  len : ns.length = (p - 1).toNat
  perm : ns.Perm (rangeKs 1 (p - 1).toNat)
  u1 : unlikeF ns = true
  u2 : unlikeF (turnedF ns (p - 1).toNat) = true
  u3 : unlikeF ns.reverse = true
  u4 : unlikeF (ns.map fun x => p - x) = true
  u5 : unlikeF (movedF ns) = true
  u6 : unlikeF (((movedF ns).drop 1).map fun x => x - 1) = true
theorem tail_of {p g f : Int} (h : (p, g, f) ∈ cases60) : Tail p (rowF p g f (p - 1).toNat) := by
  have hm : (p, rowF p g f (p - 1).toNat) ∈ rows60 := rows_are ▸ List.mem_map.mpr ⟨_, h, rfl⟩
  have hc := List.all_eq_true.mp tail60 _ hm
  simp only [chkT, Bool.and_eq_true, beq_iff_eq, decide_eq_true_eq] at hc
  obtain ⟨⟨⟨⟨⟨⟨⟨a, b⟩, c⟩, d⟩, e⟩, f⟩, g⟩, h⟩ := hc
  exact ⟨a, b, okF_un c, okF_un d, okF_un e, okF_un f, okF_un g, okF_un h⟩
theorem rangeKs_mem {a x : Int} {n : Nat} : x ∈ rangeKs a n ↔ a ≤ x ∧ x < a + (n : Int) := by
  unfold rangeKs
  rw [List.mem_map]
  constructor
  · rintro ⟨i, hi, rfl⟩
    have := List.mem_range.mp hi
    omega
  · rintro ⟨h1, h2⟩
    exact ⟨(x - a).toNat, List.mem_range.mpr (by omega), by omega⟩
theorem Tail.mem {p : Int} {ns : List Int} (T : Tail p ns) {x : Int} : x ∈ ns ↔ 1 ≤ x ∧ x < 1 + ((p - 1).toNat : Int) := T.perm.mem_iff.trans rangeKs_mem
theorem mem_all {p g y : Int} (hp : p ∈ ([5, 7, 11] : List Int)) (hg : g ∈ rootsOf p) (h0 : 0 ≤ y) (h1 : y < p - 1) : (p, g, 1 + y) ∈ cases60 := by
  simp only [List.mem_cons, List.not_mem_nil, or_false] at hp
  rcases hp with rfl | rfl | rfl
  · exact List.mem_append_left _ (List.mem_append_left _ (case_mem hg h0 h1))
  · exact List.mem_append_left _ (List.mem_append_right _ (case_mem hg h0 h1))
  · exact List.mem_append_right _ (case_mem hg h0 h1)
theorem roots_len {p : Int} (hp : p ∈ ([5, 7, 11] : List Int)) : (rootsOf p).length = 2 ∨ (rootsOf p).length = 4 := by
  simp only [List.mem_cons, List.not_mem_nil, or_false] at hp
  rcases hp with rfl | rfl | rfl <;> decide
theorem unlike213 : unlikeF [2, 1, 3] = true := by decide +kernel
theorem unlike123 : unlikeF [1, 2, 3] = false := by decide +kernel
end Mine02

namespace Mine02
theorem menu_bnd {p : Int} (h : p ∈ ([5, 7, 11] : List Int)) : 5 ≤ p ∧ p ≤ 11 := by
  simp only [List.mem_cons, List.not_mem_nil, or_false] at h
  omega
theorem dict_my {prog : Program} {w : World} {A : Around} {E : Value → Shared → Prop} {s : Shared} {h₀ : Heap} {L d D5 D7 D11 : Addr} {news : List (Addr × Obj)} {o : Obj} {p : Int} {t t5 t7 t11 a1 a2 b1 b2 c1 c2 c3 c4 : Tok} {n5 n7 n11 : Nat} {Q : Value → Shared → Prop} (N : News h₀ L s.heap news) (hp : (d, o) ∈ news)
    (hd : o.IsDictOf (PySem.intKind prog w) (intKeyPairs [(.int 5 t5, .ref D5), (.int 7 t7, .ref D7), (.int 11 t11, .ref D11)])) (hm : p ∈ ([5, 7, 11] : List Int)) (m5 : (D5, listOf #[.int 2 a1, .int 3 a2] n5) ∈ news) (m7 : (D7, listOf #[.int 3 b1, .int 5 b2] n7) ∈ news) (m11 : (D11, listOf #[.int 2 c1, .int 6 c2, .int 7 c3, .int 8 c4] n11) ∈ news)
    (h : ∀ D vs n tk, (D, listOf (List.toArray vs) n) ∈ news → IntsAre vs (rootsOf p) → (rootsOf p).length = 2 ∨ (rootsOf p).length = 4 → Q (.ref D) { s with toks := tk }) : wpAny (model prog w) A (getItem (.ref d) (.int p t)) Q E s := by
  have hl := roots_len hm
  simp only [List.mem_cons, List.not_mem_nil, or_false] at hm
  rcases hm with rfl | rfl | rfl
  · exact kdt_getItem (knd := PySem.intKind _ _) N hp hd (intKind_is _ _ _ _) rfl (h D5 [.int 2 a1, .int 3 a2] n5 _ m5 (.cons _ _ (.cons _ _ .nil)) hl)
  · exact kdt_getItem (knd := PySem.intKind _ _) N hp hd (intKind_is _ _ _ _) rfl (h D7 [.int 3 b1, .int 5 b2] n7 _ m7 (.cons _ _ (.cons _ _ .nil)) hl)
  · exact kdt_getItem (knd := PySem.intKind _ _) N hp hd (intKind_is _ _ _ _) rfl (h D11 [.int 2 c1, .int 6 c2, .int 7 c3, .int 8 c4] n11 _ m11 (.cons _ _ (.cons _ _ (.cons _ _ (.cons _ _ .nil)))) hl)
theorem modp_my {prog : Program} {w : World} {A : Around} {E Q : Value → Shared → Prop} {s : Shared} {x m : Int} {t u : Tok} (hm : m ∈ ([5, 7, 11] : List Int)) (h : ∀ tk t, Q (.int (x.fmod m) t) { s with toks := tk }) : wpAny (model prog w) A (binaryOp .Mod (.int x t) (.int m u)) Q E s :=
  mod_int' (by have := menu_bnd hm; omega) (h _ _)
theorem menu_my {prog : Program} {w : World} {A : Around} {E : Value → Shared → Prop} {s : Shared} {h₀ : Heap} {L D : Addr} {news : List (Addr × Obj)} {vs : List Value} {ns : List Int} {n : Nat} {k : Int} {u : Tok} {value slice : PySem.Expr} {Q : Value → Shared → Prop} (N : News h₀ L s.heap news) (hm : (D, listOf vs.toArray n) ∈ news) (hi : IntsAre vs ns) (h0 : 0 ≤ k) (h1 : k < ns.length) (hfit : ns.length < 1000) (h : ∀ g t, g ∈ ns → Q (.int g t) s)
    (hs : subscripted slice false (.ref D) (.int k u) = operate [.ref D, .int k u] (getItem (.ref D) (.int k u)) := by with_unfolding_all rfl) :
    wpAny (model prog w) A (subscriptTail value slice (.ref D) (.int k u)) Q E s :=
  ksa_sub N hm hi h0 h1 (by omega) (fun t => h _ t (by
    have hk : k.toNat < ns.length := by omega
    rw [List.getD_eq_getElem?_getD, List.getElem?_eq_getElem hk]
    exact List.getElem_mem hk)) hs
theorem modl_my {prog : Program} {w : World} {A : Around} {E Q : Value → Shared → Prop} {s : Shared} {x m : Int} {t u : Tok} (hm : (∃ p, m = p - 1 ∧ p ∈ ([5, 7, 11] : List Int)) ∨ (∃ p, m = ((rootsOf p).length : Int) ∧ ((rootsOf p).length = 2 ∨ (rootsOf p).length = 4))) (h : ∀ y tk t, 0 ≤ y → y < m → Q (.int y t) { s with toks := tk }) : wpAny (model prog w) A (binaryOp .Mod (.int x t) (.int m u)) Q E s := by
  have hm' : 0 < m := by
    rcases hm with ⟨p, rfl, hq⟩ | ⟨p, rfl, hq⟩
    · have := menu_bnd hq; omega
    · omega
  exact mod_int' (by omega) (h _ _ _ (by rw [Int.fmod_eq_emod_of_nonneg _ (by omega)]; exact Int.emod_nonneg _ (by omega)) (by rw [Int.fmod_eq_emod_of_nonneg _ (by omega)]; exact Int.emod_lt_of_pos _ (by omega)))
theorem prod_facts {a g : Int} (h0 : 0 ≤ a) (h1 : a < 16) (g0 : 0 ≤ g) (g1 : g < 16) : 0 ≤ a * g ∧ a * g < 2 ^ 40 := by
  have h2 := Int.mul_nonneg h0 g0
  have h3 : a * g ≤ 15 * 15 := Int.mul_le_mul (by omega) (by omega) g0 (by omega)
  exact ⟨h2, by omega⟩
theorem rangeKs_succ {a : Int} {n : Nat} : rangeKs a (n + 1) = rangeKs a n ++ [a + (n : Int)] := by simp [rangeKs, List.range_succ]
theorem grown_tabs {h₀ h : Heap} {L : Addr} {tabs all : List (Addr × Obj)} (N : News h₀ L h all) (hs : ∀ p ∈ tabs, p ∈ all) (a : GI tabs) (b : GD tabs) : GrownAll [(41, 37), (34, 30)] h := by
  obtain ⟨_, _, _, _, ma, _⟩ := a
  obtain ⟨_, _, _, _, mb, _⟩ := b
  exact ⟨GrownAt.of N (hs _ mb), GrownAt.of N (hs _ ma), trivial⟩
theorem un_t {w : World} {loose : List Str} {mean : ExcName → Option Value} {mg mb : Str → Option Value} {dp un : Nat} {gd : Option (List Code)} {cn : Str} {cs : Scope} {a : Addr} {ccd : Value} {cl : List (Str × Addr)} {outer : List Env} {A₀ : Around} {base h₀ : Heap} {L : Addr} {m : Str → Option Value} {s : Shared} {Q E : Value → Shared → Prop} {news : List (Addr × Obj)} {D : Addr} {vs : List Value} {ns : List Int} {cap : Nat} {b : Bool} (X : (Mine02.hd.heap_39 w.params).In h₀) (B : Below A₀ base outer h₀) (F : Fr h₀ L s.heap m) (N : News h₀ L s.heap news) (T : Top topProg loose mean mg mb h₀) (hk : cs.kind = .function)
   (hm : (D, listOf vs.toArray cap) ∈ news) (hi : IntsAre vs ns) (hl : ns.length < 1000) (hd : dp + 20 < recursionLimit) (hu : un + 200 < cLine) (hv : unlikeF ns = b)
   (h : ∀ h' tk', Fr h₀ L h' m → News h₀ L h' news → Q (.bool b) { s with heap := h', toks := tk' }) :
   wpAny (model PySem.Challenge.rw_gy0003_02.row.prog w) (ktrTop dp un gd cn cs L a ccd cl outer) (call (.ref 88) [.ref D]) Q E s :=
  un_c X B F N T hk hm hi hl hd hu fun h' tk' F' N' => by rw [hv]; exact h h' tk' F' N'
section
variable {prog : Program} {w : World} {A : Around} {E : Value → Shared → Prop} {s : Shared} {hp : Heap} {tk : Nat} {h₀ : Heap} {L l a b : Addr} {m : Str → Option Value} {news : List (Addr × Obj)} {value slice : PySem.Expr} {vs ws : List Value} {ns ms : List Int} {ops : List Value} {Q : Value → Shared → Prop} {c d k : Nat} {t : Tok}
theorem from_my (F : Fr h₀ L hp m) (N : News h₀ L hp news) (hm : (l, listOf vs.toArray c) ∈ news) (hi : IntsAre vs ns) (hz : ns.length < 2 ^ 20)
    (h : ∀ D ws h', Fr h₀ L h' m → News h₀ L h' ((D, listOf (List.toArray ws) 0) :: news) → (∀ p ∈ news, p.1 < D) → IntsAre ws (ns.drop k) → Q (.ref D) { s with heap := h', toks := tk })
    (hs : subscripted slice false (.ref l) (.ref hp.objs.size) = operate [.ref hp.objs.size, .ref l] (getItem (.ref l) (.ref hp.objs.size))) (ht : ∀ r, letTemporaryGo value (.ref l) r = pure ()) :
    wpAny (model prog w) A (subscriptTail value slice (.ref l) (.ref hp.objs.size)) Q E { heap := hp.push { cls := .type "slice", data := .fields #[.int (k : Nat) t, .none, .none] }, gens := s.gens, drawn := s.drawn, toks := tk, os := s.os } :=
  kmk_slice_ints (s := { heap := hp, gens := s.gens, drawn := s.drawn, toks := tk, os := s.os }) F N (News.isList N hm) (IsPart.int _ _) IsPart.none hi (kmk_from hi (by omega)) rfl (fun D ws h' F' N' l1 i _ _ => h D ws h' F' N' l1 (by simpa using i)) hs ht (by rw [List.size_toArray, sizeLine_eq, hi.length]; omega)
theorem upto_my (F : Fr h₀ L hp m) (N : News h₀ L hp news) (hm : (l, listOf vs.toArray c) ∈ news) (hi : IntsAre vs ns) (hz : ns.length < 2 ^ 20)
    (h : ∀ D ws h', Fr h₀ L h' m → News h₀ L h' ((D, listOf (List.toArray ws) 0) :: news) → (∀ p ∈ news, p.1 < D) → IntsAre ws (ns.take k) → Q (.ref D) { s with heap := h', toks := tk })
    (hs : subscripted slice false (.ref l) (.ref hp.objs.size) = operate [.ref hp.objs.size, .ref l] (getItem (.ref l) (.ref hp.objs.size))) (ht : ∀ r, letTemporaryGo value (.ref l) r = pure ()) :
    wpAny (model prog w) A (subscriptTail value slice (.ref l) (.ref hp.objs.size)) Q E { heap := hp.push { cls := .type "slice", data := .fields #[.none, .int (k : Nat) t, .none] }, gens := s.gens, drawn := s.drawn, toks := tk, os := s.os } :=
  kmk_slice_ints (s := { heap := hp, gens := s.gens, drawn := s.drawn, toks := tk, os := s.os }) F N (News.isList N hm) IsPart.none (IsPart.int _ _) hi (kmk_upto hi (by omega)) rfl (fun D ws h' F' N' l1 i _ _ => h D ws h' F' N' l1 (by simpa using i)) hs ht (by rw [List.size_toArray, sizeLine_eq, hi.length]; omega)
theorem cat_my (F : Fr h₀ L s.heap m) (N : News h₀ L s.heap news) (ha : (a, listOf vs.toArray c) ∈ news) (hb : (b, listOf ws.toArray d) ∈ news) (hi : IntsAre vs ns) (hj : IntsAre ws ms) (hz : ns.length < 2 ^ 20) (hz2 : ms.length < 2 ^ 20)
    (h : ∀ D us h', Fr h₀ L h' m → News h₀ L h' ((D, listOf (List.toArray us) 0) :: news) → (∀ p ∈ news, p.1 < D) → IntsAre us (ns ++ ms) → Q (.ref D) { s with heap := h' }) : wpAny (model prog w) A (binaryOp .Add (.ref a) (.ref b)) Q E s :=
  kmk_add_ints F N (News.isList N ha) (News.isList N hb) hi hj h (by rw [sizeLine_eq]; omega)
end
end Mine02

namespace Mine02
section
local macro_rules | `(tactic| k_updF) => `(tactic| first | assumption | (refine' UpdF.head ?a; (case a => k_all)) | (refine' UpdF.tail ?a ?b; (case a => k_ne); (case b => k_updF)))
local macro_rules | `(tactic| k_allIn) => `(tactic| first | exact List.forall_mem_nil _ | (refine' List.forall_mem_cons.mpr (And.intro ?aI ?aR); (case aI => (repeat (first | with_reducible exact List.mem_cons_self | refine List.mem_cons_of_mem _ ?_))); (case aR => k_allIn)) | (intro p hp; (repeat (first | with_reducible exact hp | refine List.mem_cons_of_mem _ ?_)); done))
local macro_rules | `(tactic| walk_at "LpPost") => `(tactic| (refine LpPost.ret ?_))
local macro_rules | `(tactic| walk_at "call ref") => `(tactic| (k_here; k_dflt (refine' ins_c ?X ?B ?F ?N ?T ?hk ?hU ?hi ?hn ?hd ?hu ?_; (case X => k_asm); (case B => k_asm); (case F => k_asm); (case N => k_asm); (case T => k_asm); (case hk => first | exact rfl | assumption); (case hU => k_updF); (case hi => assumption); (case hn => omega); (case hd => ktr_room); (case hu => ktr_units)); intro vs9 n9 h9 tk9 i9 F9 N9; (try dsimp only at N9); (try dsimp only); (try k_fold)))
local macro_rules | `(tactic| walk_at "call ref") => `(tactic| (k_here; k_dflt (refine' bis_c ?X ?B ?F ?N ?T ?hk ?ha ?hl ?hi ?hn ?hd ?hu ?_; (case ha => first | exact .inl rfl | exact .inr ⟨_, rfl⟩); (case X => k_asm); (case B => k_asm); (case F => k_asm); (case N => k_asm); (case T => k_asm); (case hk => first | exact rfl | assumption); (case hl => k_mem); (case hi => assumption); (case hn => omega); (case hd => ktr_room); (case hu => ktr_units)); intro t9 h9 tk9 F9 N9; (try dsimp only); (try k_fold)))
local macro_rules | `(tactic| walk_at "exec For Name Call cons nil") => `(tactic| (k_here; (rename Fr _ _ _ _ => lF'); (with_unfolding_all refine' For_invVF lF' ?k1 ?k2 ?_; (case k1 => exact rfl); (case k2 => exact rfl); k_whole)))
local macro_rules | `(tactic| walk_at "call builtin:len") => `(tactic| (k_here; k_dflt (refine' len_my ?N ?m ?s ?f ?_; (case N => k_asm); (case m => (repeat (first | with_reducible assumption | refine List.mem_cons_of_mem _ ?_))); (case s => exact IntsAre.length (by with_reducible assumption)); (case f => omega))))
local macro_rules | `(tactic| walk_at "pyIter ref") => `(tactic| (k_here; refine Stop.out ?_))
local macro_rules | `(tactic| walk_at "binaryOp Mod int int") => `(tactic| (k_here; k_dflt (refine' modp_my ?e ?_; (case e => assumption)); intro tk9 t9))
local macro_rules | `(tactic| walk_at "binaryOp Mod int int") => `(tactic| (k_here; k_dflt (refine' modl_my ?e ?_; (case e => first | exact .inl ⟨_, rfl, by assumption⟩ | exact .inr ⟨_, rfl, by assumption⟩)); intro y9 tk9 t9 yl9 yr9))
local macro_rules | `(tactic| walk_at "subscriptTail Name BinOp ref int") => `(tactic| (k_here; k_dflt (refine' menu_my ?k1 ?k2 ?k3 ?k4 ?k5 ?k6 ?_ ?k7; (case k1 => k_asm); (case k2 => (repeat (first | with_reducible assumption | refine List.mem_cons_of_mem _ ?_))); (case k3 => with_reducible assumption); (case k4 => assumption); (case k5 => assumption); (case k6 => omega); (case k7 => with_unfolding_all rfl)); intro g9 t9 gm9))
local macro_rules | `(tactic| walk_at "subscriptTail List") => `(tactic| (k_here; k_dflt (refine' menu_my ?k1 ?k2 ?k3 ?k4 ?k5 ?k6 ?_ ?k7; (case k1 => k_asm); (case k2 => k_mem); (case k3 => (repeat constructor)); (case k4 => l_idx); (case k5 => l_idx); (case k6 => (simp only [List.length_cons, List.length_nil]; omega)); (case k7 => with_unfolding_all rfl)); intro g9 t9 gm9; have gb9 := menu_bnd gm9))
local macro_rules | `(tactic| walk_at "getItem ref int") => `(tactic| (k_here; k_dflt (refine' dict_my ?N ?hp ?hd ?hm ?m5 ?m7 ?m11 ?_; (case N => k_asm); (case hd => assumption); (case hp => k_mem); (case hm => assumption); (case m5 => k_mem); (case m7 => k_mem); (case m11 => k_mem)); intro D9 v9 n9 k9 m9 i9 l9))
local macro_rules | `(tactic| walk_at "call ref") => `(tactic| (k_here; (with_reducible show wpAny _ _ (call (Value.ref 81) _) _ _ _); refine Stop.out ?_))
local macro_rules | `(tactic| walk_at "call ref") => `(tactic| (k_here; (with_reducible show wpAny _ _ (call (Value.ref 56) _) _ _ _); refine Stop.out ?_))
local macro_rules | `(tactic| walk_at "call ref") => `(tactic| (k_here; (with_reducible show wpAny _ _ (call (Value.ref 88) _) _ _ _); refine Stop.out ?_))
local macro_rules | `(tactic| walk_at "call ref") => `(tactic| (k_here; k_dflt (refine' un_t ?X ?B ?F ?N ?T ?hk ?mD ?hi ?hl ?hd ?hu ?hv ?_; (case X => k_asm); (case B => k_asm); (case F => k_asm); (case N => k_asm); (case T => k_asm); (case hk => first | exact rfl | assumption); (case mD => k_mem); (case hi => first | assumption | (repeat constructor)); (case hl => first | omega | (simp only [List.length_reverse, List.length_map, List.length_append, List.length_take, List.length_drop]; omega) | decide); (case hd => ktr_room); (case hu => ktr_units); (case hv => first | with_reducible assumption | with_reducible exact unlike213 | with_reducible exact unlike123)); intro h9 tk9 F9 N9; (try dsimp only); (try k_fold)))
local macro_rules | `(tactic| walk_at "call builtin:sorted") => `(tactic| (k_here; k_dflt (refine' sorted_my ?F ?N ?l ?i ?z ?p ?o ?_; (case F => k_asm); (case N => k_asm); (case l => k_mem); (case i => assumption); (case z => omega); (case p => assumption); (case o => exact rangeKs_sorted _ _)); intro D9 v9 n9 h9 F9 N9 l9 i9; (try k_lt l9)))
local macro_rules | `(tactic| walk_at "call type:list") => `(tactic| (k_here; k_dflt (refine' list_range_my ?hh ?F ?N ?r ?a ?b ?c ?e ?_; (case hh => exact rfl); (case F => k_asm); (case N => k_asm); (case r => assumption); (case a => omega); (case b => omega); (case c => omega); (case e => exact rfl)); intro D9 v9 n9 h9 tk9 F9 N9 l9 i9; (try k_lt l9)))
local macro_rules | `(tactic| walk_at "compareOp NotEq ref ref") => `(tactic| (k_here; k_dflt (refine' ne_my ?N ?a ?b ?i ?j ?u ?e ?_; (case N => k_asm); (case a => k_mem); (case b => k_mem); (case i => assumption); (case j => assumption); (case u => units_room); (case e => exact rfl))))
local macro_rules | `(tactic| walk_at "call builtin:list.index") => `(tactic| (k_here; k_dflt (refine' index_my ?N ?l ?i ?z ?k ?_; (case N => k_asm); (case l => k_mem); (case i => assumption); (case z => omega); (case k => first | assumption | exact (Tail.mem (by assumption)).mpr (by omega))); intro t9))
local macro_rules | `(tactic| walk_at "subscriptTail Name Slice ref ref") => `(tactic| (k_here; k_dflt (refine' rev_my ?F ?N ?l ?k ?i ?z ?_ ?s ?t; (case F => k_asm); (case N => k_asm); (case l => k_mem); (case k => exact IsPart.int _ _); (case i => assumption); (case s => with_unfolding_all rfl); (case t => intro _; rfl); (case z => (have hL9 := IntsAre.length (by assumption)); omega)); intro D9 vs9 h9 F9 N9 l9 i9; (try k_lt l9)))
local macro_rules | `(tactic| walk_at "subscriptTail Name Slice ref ref") => `(tactic| (k_here; k_dflt (refine' from_my ?F ?N ?l ?i ?z ?_ ?s ?t; (case F => k_asm); (case N => k_asm); (case l => k_mem); (case i => assumption); (case s => with_unfolding_all rfl); (case t => intro _; rfl); (case z => first | omega | (simp only [List.length_append, List.length_take, List.length_drop]; omega))); intro D9 vs9 h9 F9 N9 l9 i9; (try k_lt l9)))
local macro_rules | `(tactic| walk_at "subscriptTail Name Slice ref ref") => `(tactic| (k_here; k_dflt (refine' upto_my ?F ?N ?l ?i ?z ?_ ?s ?t; (case F => k_asm); (case N => k_asm); (case l => k_mem); (case i => assumption); (case s => with_unfolding_all rfl); (case t => intro _; rfl); (case z => omega)); intro D9 vs9 h9 F9 N9 l9 i9; (try k_lt l9)))
local macro_rules | `(tactic| walk_at "binaryOp Add ref ref") => `(tactic| (k_here; k_dflt (refine' cat_my ?F ?N ?a ?b ?i ?j ?z ?y ?_; (case F => k_asm); (case N => k_asm); (case a => k_mem); (case b => k_mem); (case i => assumption); (case j => assumption); (case z => (simp only [List.length_take, List.length_drop]; omega)); (case y => (simp only [List.length_take, List.length_drop]; omega))); intro D9 vs9 h9 F9 N9 l9 i9; (try k_lt l9)))
local macro_rules | `(tactic| walk_at "GrownAll") => `(tactic| (refine' grown_tabs ?gN ?gs ?ga ?gb; (case gN => k_asm); (case ga => with_reducible assumption); (case gb => with_reducible assumption); (case gs => (intro p hp; (repeat (first | with_reducible exact hp | refine List.mem_cons_of_mem _ ?_))))))
local macro_rules | `(tactic| walk_at "And") => `(tactic| ((with_reducible show _ ∧ GrownAll _ _); refine And.intro ?_ ?_))
local macro_rules | `(tactic| wrow_close) => `(tactic| (w_end; (show GoodW _ _ _ _ _ (.ok (.ret (.bool _))) _); refine' goodW_bool ?gA ?gB (raisesW_false ?gC) (postW_of ?gD ?gE ?gF) ?gG; (case gA => k_asm); (case gB => k_asm); (case gC => wrow_none_raised); (case gD => rfl); (case gE => exact w_eq_bool (w_res rfl) w_lit); (case gF => rfl); (case gG => rfl)))
local macro_rules | `(tactic| walk_at "CompSrc") => `(tactic| (k_here; refine Stop.out ?_))
local macro_rules | `(tactic| walk_at "call ref") => `(tactic| (k_here; k_dflt (refine' lw_b ?X ?B ?F ?N ?T ?hk ?c1 ?c2 ?g1 ?g2 ?a ?b ?c ?d ?e ?f ?hd ?hu ?_; (case X => k_asm); (case B => k_asm); (case F => k_asm); (case N => k_asm); (case T => k_asm); (case hk => first | exact rfl | assumption); (case c1 => k_asm); (case c2 => k_asm); (case g1 => repeat (first | assumption | refine GI.cons ?_)); (case g2 => repeat (first | assumption | refine GD.cons ?_)); (case a => omega); (case b => omega); (case c => omega); (case d => omega); (case e => omega); (case f => omega); (case hd => ktr_room); (case hu => ktr_units)); intro t9 h9 tk9 F9 N9; (try dsimp only); (try k_fold)))
local macro_rules | `(tactic| walk_at "call ref") => `(tactic| (k_here; k_dflt (refine' id_b ?X ?B ?F ?N ?T ?hk ?c1 ?c2 ?g1 ?g2 ?a ?b ?c ?d ?hd ?hu ?_; (case X => k_asm); (case B => k_asm); (case F => k_asm); (case N => k_asm); (case T => k_asm); (case hk => first | exact rfl | assumption); (case c1 => k_asm); (case c2 => k_asm); (case g1 => repeat (first | assumption | refine GI.cons ?_)); (case g2 => repeat (first | assumption | refine GD.cons ?_)); (case a => first | assumption | omega); (case b => first | assumption | omega); (case c => omega); (case d => omega); (case hd => ktr_room); (case hu => ktr_units)); intro T9 q9 t9 u9 h9 tk9 F9 N9 l9; (try k_lt l9); (try dsimp only); (try k_fold)))
local macro_rules | `(tactic| walk_at "call builtin:list.append") => `(tactic| (k_here; k_dflt (refine' append_my ?F ?N ?U ?z ?_; (case F => k_asm); (case N => k_asm); (case U => k_updF); (case z => omega)); intro h9 F9 N9; (try dsimp only at N9); (try k_sweep)))
local macro_rules | `(tactic| walk_at "LpPost") => `(tactic| (refine LpPost.ret ?_))
local macro_rules | `(tactic| k_all) => `(tactic| assumption)
local macro_rules | `(tactic| walk_at "ite") => `(tactic| (k_here; k_openite; first | (refine ite_pos (by (simp only [beq_iff_eq, bne_iff_ne, decide_eq_true_eq]; omega)) ?_) | (refine ite_neg (by (simp only [beq_iff_eq, bne_iff_ne, decide_eq_true_eq]; omega)) ?_)))
local macro_rules | `(tactic| cell_enter) => `(tactic| (refine' code_def ?k1 ?k2 ?k3 ?k4 ?k5 ?kA ?kF ?kK ?k6 ?k7 ?k8 ?k9 ?kB ?_ ?c2 ?c3 ?c4 ?c5; (case kA => exact rfl); (case kF => exact rfl); (case kK => assumption); (case k1 => k_asm); (case k2 => k_asm); (case k3 => k_asm); (case k4 => k_asm); (case k5 => k_asm); (case k6 => k_is); (case k7 => k_is); (case k8 => ktr_room); (case k9 => first | exact BindsTo.of_eq rfl | exact kp_binds (by k_in) (fun _ => rfl)); (case c5 => decide); (case kB => exact locs rfl); (case c2 => exact rfl); (case c3 => exact rfl); (case c4 => exact rfl); k_whole; intro g' L' h' FG' F' N' B' X' T'; (try dsimp only); (try k_lift B'); (try k_fold)))
set_option maxRecDepth 100000 in
set_option maxHeartbeats 8000000 in
theorem law_c : PySem.Challenge.rw_gy0003_02.Holds := hd (by
  k_go0
  (all_goals try k_fold)
  k_steps
  · refine Stop.intro ?_
    rename Shared => sA
    rename_i p tp hpm hpb _ oP dP _ _ _ _ _ _ xa _ _ xb _ _ xc _ _ xd _ _ _ _ _ _ _ x1 x2 x3 _ _ _ _ xe _ _ _ x4 xf _ _ _ _ _ x5 g _ hg _ _ _ _ xg _ _ _ x6 xh _ y _ _ hy0 hy1 _ _ Dr _ lr _ _ xi _ _ oR dR _ xj xk _ _ _ _ _ rgA FA NA xs
    have hcase := case_of (mem_all hpm hg hy0 hy1)
    have htail := tail_of (mem_all hpm hg hy0 hy1)
    have N3 : News _ _ _ ((Dr, listOf (List.toArray []) 0) :: (sA.heap.objs.size + 1 + 1, oR) :: (sA.heap.objs.size + 1, oP) :: (37, tabObj #[]) :: (30, tabObj #[]) :: []) := cb_drop NA (by k_allIn)
    have lr2 : @LT.lt Nat _ (sA.heap.objs.size + 1 + 1) Dr ∧ @LT.lt Nat _ 37 sA.heap.objs.size ∧ @LT.lt Nat _ 30 sA.heap.objs.size := ⟨by omega, by omega, by omega⟩
    clear xa xb xc xd xe xf xg xh xi xj xk x1 x2 x3 x4 x5 x6 xs lr NA
    (with_unfolding_all refine' lp_range (σ := Int × Tok × List Value × Nat × List (Addr × Obj)) (n := (p - 1).toNat) (fun c => (Dr, listOf c.2.2.1.toArray c.2.2.2.1) :: (sA.heap.objs.size + 1 + 1, oR) :: (sA.heap.objs.size + 1, oP) :: c.2.2.2.2) (fun c => [(Str.ofString "here", .int c.1 c.2.1)]) [] (fun i c => c.1 = hereF p g (1 + y) i ∧ IntsAre c.2.2.1 (rowF p g (1 + y) i) ∧ ((i = 0 ∧ c.2.2.2.2 = [(37, tabObj #[]), (30, tabObj #[])]) ∨ (0 < i ∧ GI c.2.2.2.2 ∧ GD c.2.2.2.2 ∧ ∀ q ∈ c.2.2.2.2, @Ne Nat q.1 Dr))) (1 + y, _, [], 0, [(37, tabObj #[]), (30, tabObj #[])]) rfl rgA (small_one (by omega) (by omega) (by omega) (by omega)) ((rangeSize_nat _ _).trans (by congr 1; omega)) FA N3 ?lk ?lp ?lt ?ld)
    case lk => kst_all
    case lp => exact ⟨rfl, .nil, .inl ⟨rfl, rfl⟩⟩
    case lt =>
      rintro ⟨hr, th, vr, cap, tabs⟩ I it i t u h tk hin ⟨p1, p2, p3⟩ hoff F9 N9
      dsimp only at p1 p2 p3 F9 N9
      subst p1
      clear FA N3 rgA
      have hA := hcase.eq i (by omega)
      have hB := hcase.lo i (by omega)
      have hvr := p2.length
      rw [rowF_len] at hvr
      obtain ⟨z1, z2⟩ := prod_facts hB.1 hB.2 hcase.g0 hcase.g1
      have hg0 := hcase.g0
      have hg1 := hcase.g1
      have hf0 := hcase.f0
      have hf1 := hcase.f1
      have hDI : @Ne Nat Dr I := hoff _ (.head _)
      have hRI : @Ne Nat (sA.heap.objs.size + 1 + 1) I := hoff _ (.tail _ (.head _))
      have hPI : @Ne Nat (sA.heap.objs.size + 1) I := hoff _ (.tail _ (.tail _ (.head _)))
      have hTI : ∀ q ∈ tabs, q.1 ≠ I := fun q hq => hoff q (.tail _ (.tail _ (.tail _ hq)))
      rcases p3 with ⟨rfl, rfl⟩ | ⟨hpos, hGI, hGD, hapt⟩
      · (try k_fold)
        k_steps
        refine Stop.intro ?_
        k_dflt (refine' lw_f (news := (I, it) :: (Dr, listOf vr.toArray cap) :: (sA.heap.objs.size + 1 + 1, oR) :: (sA.heap.objs.size + 1, oP) :: (37, tabObj #[]) :: []) ?yX ?yB ?yF ?yN ?yT ?yk ?yC ?yC2 ?y30 ?y0 ?ya ?yb ?yc ?yd ?ye ?yf ?yg ?yh ?_; (case yX => k_asm); (case yB => k_asm); (case yF => k_asm); (case yN => exact cb_drop (by k_asm) (by k_allIn)); (case yT => k_asm); (case yk => exact rfl); (case yC => k_asm); (case yC2 => k_asm); (case y30 => exact List.forall_mem_cons.mpr ⟨by (have := hoff (30, tabObj #[]) (by k_memK)); exact Ne.symm this, List.forall_mem_cons.mpr ⟨by k_ne, List.forall_mem_cons.mpr ⟨by k_ne, List.forall_mem_cons.mpr ⟨by k_ne, List.forall_mem_cons.mpr ⟨by k_ne, List.forall_mem_nil _⟩⟩⟩⟩⟩); (case y0 => decide); (case ya => omega); (case yb => omega); (case yc => decide); (case yd => decide); (case ye => omega); (case yf => omega); (case yg => ktr_room); (case yh => ktr_units))
        intro t1 c1 oc1 vc1 tc1 h1 tk1 F1 N1 l1 l1b d1 e1
        k_lt l1
        (try dsimp only)
        (try k_fold)
        k_steps
        refine Stop.intro ?_
        have hgi : GI ((I, it) :: (Dr, listOf (vr ++ [Value.int (hereF p g (1 + y) 0) th]).toArray (cap + 1)) :: (sA.heap.objs.size + 1 + 1, oR) :: (sA.heap.objs.size + 1, oP) :: (30, tabObj #[rawInt 32, rawInt 4, .ref c1]) :: (c1, oc1) :: []) := ⟨c1, oc1, _, _, by k_memK, by k_memK, d1, e1⟩
        k_dflt (refine' id_f (news := (I, it) :: (Dr, listOf (vr ++ [Value.int (hereF p g (1 + y) 0) th]).toArray (cap + 1)) :: (sA.heap.objs.size + 1 + 1, oR) :: (sA.heap.objs.size + 1, oP) :: (30, tabObj #[rawInt 32, rawInt 4, .ref c1]) :: (c1, oc1) :: []) ?yX ?yB ?yF ?yN ?yT ?yk ?yC ?yC2 ?yg ?y37 ?ya ?yb ?yc ?yd ?ye ?yf ?_; (case yX => k_asm); (case yB => k_asm); (case yF => k_asm); (case yN => exact cb_drop (by k_asm) (by k_allIn)); (case yT => k_asm); (case yk => exact rfl); (case yC => k_asm); (case yC2 => k_asm); (case yg => exact hgi); (case y37 => exact List.forall_mem_cons.mpr ⟨by (have := hoff (37, tabObj #[]) (by k_memK)); exact Ne.symm this, List.forall_mem_cons.mpr ⟨by k_ne, List.forall_mem_cons.mpr ⟨by k_ne, List.forall_mem_cons.mpr ⟨by k_ne, List.forall_mem_cons.mpr ⟨by k_ne, List.forall_mem_cons.mpr ⟨by k_ne, List.forall_mem_nil _⟩⟩⟩⟩⟩⟩); (case ya => assumption); (case yb => assumption); (case yc => omega); (case yd => omega); (case ye => ktr_room); (case yf => ktr_units))
        intro T2 q2 t2 u2 c2 oc2 vc2 tc2 h2 tk2 F2 N2 l2 l2b l2c d2 e2
        k_lt l2
        have hT2 : @Ne Nat T2 c2 := by omega
        (try dsimp only)
        (try k_fold)
        k_steps
        refine' LpPost.next (hereF p g (1 + y) (0 + 1), _, _, _, (37, tabObj #[rawInt 47, rawInt 4, .ref c2]) :: (c2, oc2) :: (30, tabObj #[rawInt 32, rawInt 4, .ref c1]) :: (c1, oc1) :: []) (by k_asm) (by k_asm) ?zP ?zs ?zo ?zk ?zh
        case zk => kst_all
        case zs => k_allIn
        case zo => exact List.forall_mem_cons.mpr ⟨hDI, List.forall_mem_cons.mpr ⟨hRI, List.forall_mem_cons.mpr ⟨hPI, List.forall_mem_cons.mpr ⟨hTI (37, tabObj #[]) (by k_memK), List.forall_mem_cons.mpr ⟨by k_ne, List.forall_mem_cons.mpr ⟨hTI (30, tabObj #[]) (by k_memK), List.forall_mem_cons.mpr ⟨by k_ne, List.forall_mem_nil _⟩⟩⟩⟩⟩⟩⟩
        case zh =>
          intro z h1 h2 h3
          have h2' : z ≠ Str.ofString "here" := h2 _ (.head _)
          exact (if_neg h2').trans ((if_neg h1).trans (if_neg h2'))
        case zP => exact ⟨rfl, by rw [rowF_succ]; exact p2.append (.cons _ _ .nil), .inr ⟨by omega, ⟨c1, oc1, _, _, by k_memK, by k_memK, d1, e1⟩, ⟨c2, oc2, _, _, by k_memK, by k_memK, d2, e2⟩, List.forall_mem_cons.mpr ⟨by k_ne, List.forall_mem_cons.mpr ⟨by k_ne, List.forall_mem_cons.mpr ⟨by k_ne, List.forall_mem_cons.mpr ⟨by k_ne, List.forall_mem_nil _⟩⟩⟩⟩⟩⟩
      · (try k_fold)
        k_steps
        refine' LpPost.next (hereF p g (1 + y) (i + 1), _, _, _, tabs) (by k_asm) (by k_asm) ?zP ?zs ?zo ?zk ?zh
        case zk => kst_all
        case zs =>
          dsimp only
          refine List.forall_mem_cons.mpr ⟨by k_memK, List.forall_mem_cons.mpr ⟨by k_memK, List.forall_mem_cons.mpr ⟨by k_memK, List.forall_mem_cons.mpr ⟨by k_memK, ?_⟩⟩⟩⟩
          exact fun p hp => .tail _ (.tail _ (.tail _ (.tail _ (.tail _ hp))))
        case zo => exact List.forall_mem_cons.mpr ⟨hDI, List.forall_mem_cons.mpr ⟨hRI, List.forall_mem_cons.mpr ⟨hPI, hTI⟩⟩⟩
        case zh =>
          intro z h1 h2 h3
          have h2' : z ≠ Str.ofString "here" := h2 _ (.head _)
          exact (if_neg h2').trans ((if_neg h1).trans (if_neg h2'))
        case zP => exact ⟨rfl, by rw [rowF_succ]; exact p2.append (.cons _ _ .nil), .inr ⟨by omega, hGI, hGD, hapt⟩⟩
    case ld =>
      rintro ⟨hr, th, vr, cap, tabs⟩ u h tk ⟨p1, p2, p3⟩ F9 N9
      dsimp only at p1 p2 p3 F9 N9
      have hgg : GI tabs ∧ GD tabs := by
        rcases p3 with ⟨p4, _⟩ | ⟨_, a, b, _⟩
        · omega
        · exact ⟨a, b⟩
      obtain ⟨hgi, hgd⟩ := hgg
      rw [hcase.back] at p1
      subst p1
      clear FA N3 rgA p3 hcase
      generalize hns : rowF p g (1 + y) (p - 1).toNat = ns at p2 htail
      have T60 := htail
      obtain ⟨t_len, t_perm, u1, u2, u3, u4, u5, u6⟩ := htail
      have u5' : unlikeF (ns.drop (ns.idxOf 1) ++ ns.take (ns.idxOf 1)) = true := u5
      have hlv := p2.length
      (try k_fold)
      k_steps
      refine Stop.intro ?_
      (rename IsRange _ _ _ _ _ _ _ _ => rgB)
      (rename Fr _ _ _ _ => FB)
      (rename News _ _ _ _ => NB)
      (with_unfolding_all refine LCg.CompSrc.range (n := (p - 1).toNat) rfl FB (cb_drop NB ?ca) rgB (small_one (by omega) (by omega) (by omega) (by omega)) (rangeSize_nat _ _) (by rw [sizeLine_eq]; omega) fun g' => cp_rest (σ := Unit) (n := (p - 1).toNat) (fun _ => (Dr, listOf vr.toArray cap) :: (sA.heap.objs.size + 1 + 1, oR) :: (sA.heap.objs.size + 1, oP) :: tabs) (fun i ys _ => IntsAre ys ((rangeKs 1 i).map (idxF ns))) ?ct ?cd (p - 1).toNat 0 [] () (Nat.zero_add _) .nil)
      case ca => k_allIn
      case ct =>
        intro c i ys v I oI C oC D m₂ h tk E' hi hv hP hC hx F N off ne
        obtain ⟨tv, rfl⟩ := hv
        obtain ⟨ne1, ne2, ne3⟩ := ne
        clear FB NB rgB
        (try dsimp only at N)
        (try k_fold)
        k_steps
        refine CpEnd.put (P := fun ys _ => IntsAre ys ((rangeKs 1 (i + 1)).map (idxF ns))) () (by assumption) (by assumption) ?xs ?xo trivial ?xp
        case xs => k_allIn
        case xo => exact off
        case xp =>
          rw [rangeKs_succ, List.map_append]
          exact ints_snoc hP
      case cd =>
        intro c ys hP
        unfold LCg.FinA
        intro Dt h tk F' N' o1
        have N : News _ _ h ((Dt, listOf ys.toArray ys.length) :: (Dr, listOf vr.toArray cap) :: (sA.heap.objs.size + 1 + 1, oR) :: (sA.heap.objs.size + 1, oP) :: tabs) := N'
        have hlt := hP.length
        rw [List.length_map, rangeKs_length] at hlt
        clear N' FB NB rgB
        change IntsAre ys (turnedF ns (p - 1).toNat) at hP
        have hlT : (turnedF ns (p - 1).toNat).length = (p - 1).toNat := by rw [turnedF, List.length_map, rangeKs_length]
        (try k_fold)
        k_steps
        refine Stop.intro ?_
        (rename Fr _ _ _ _ => FC)
        (rename News _ _ _ _ => NC)
        (with_unfolding_all refine LCg.CompSrc.ledger (ax := Dr) (its := vr.toArray) (k := cap) rfl FC (cb_drop NC ?ca) (.head _) (by rw [List.size_toArray, sizeLine_eq]; omega) fun g' => cp_rest (σ := Unit) (n := vr.toArray.size) (fun _ => (Dr, listOf vr.toArray cap) :: (sA.heap.objs.size + 1 + 1, oR) :: (sA.heap.objs.size + 1, oP) :: tabs) (fun i ys _ => IntsAre ys ((ns.take i).map fun x => p - x)) ?ct ?cd vr.toArray.size 0 [] () (Nat.zero_add _) .nil)
        case ca => k_allIn
        case ct =>
          intro c i ys v I oI C oC D m₂ h tk E' hi hv hP hC hx F N off ne
          obtain ⟨n, tv, hn, rfl⟩ := ints_at p2 hv
          obtain ⟨ne1, ne2, ne3⟩ := ne
          clear FC NC
          (try dsimp only at N)
          (try k_fold)
          k_steps
          refine CpEnd.put (P := fun ys _ => IntsAre ys ((ns.take (i + 1)).map fun x => p - x)) () (by assumption) (by assumption) ?xs ?xo ?xi ?xp
          case xs => k_allIn
          case xo => exact off
          case xi => exact .inr ⟨_, .head _, rfl, _, rfl⟩
          case xp =>
            rw [take_snoc hn, List.map_append]
            exact ints_snoc hP
        case cd =>
          intro c ys2 hP2
          unfold LCg.FinE
          intro D2 h tk F' N' o2
          have N : News _ _ h ((D2, listOf ys2.toArray ys2.length) :: (Dr, listOf vr.toArray cap) :: (sA.heap.objs.size + 1 + 1, oR) :: (sA.heap.objs.size + 1, oP) :: tabs) := N'
          clear N' FC NC
          rw [List.size_toArray, hlv, List.take_length] at hP2
          (try k_fold)
          k_steps
          refine Stop.intro ?_
          rename_i Dm vsm _ _ im lm _ _ _ _ _ _ _ _ _ _ Dv vsv hv9 FV NV iv lv
          have hsv : vsv.length = (((movedF ns).drop 1).length) := iv.length
          have hsl : ((movedF ns).drop 1).length < 1000 := by
            simp only [movedF, List.length_append, List.length_take, List.length_drop]; omega
          change IntsAre vsv ((movedF ns).drop 1) at iv
          (with_unfolding_all refine LCg.CompSrc.ledger (ax := Dv) (its := vsv.toArray) (k := 0) rfl FV (cb_drop NV ?ca) (.head _) (by rw [List.size_toArray, sizeLine_eq]; omega) fun g' => cp_rest (σ := Unit) (n := vsv.toArray.size) (fun _ => (Dv, listOf vsv.toArray 0) :: (sA.heap.objs.size + 1 + 1, oR) :: (sA.heap.objs.size + 1, oP) :: tabs) (fun i ys _ => IntsAre ys ((((movedF ns).drop 1).take i).map fun x => x - 1)) ?ct ?cd vsv.toArray.size 0 [] () (Nat.zero_add _) .nil)
          case ca => k_allIn
          case ct =>
            intro c i ys v I oI C oC D m₂ h tk E' hi hv hP hC hx F N off ne
            obtain ⟨n, tv, hn, rfl⟩ := ints_at iv hv
            obtain ⟨ne1, ne2, ne3⟩ := ne
            clear FV NV
            (try dsimp only at N)
            (try k_fold)
            k_steps
            refine CpEnd.put (P := fun ys _ => IntsAre ys ((((movedF ns).drop 1).take (i + 1)).map fun x => x - 1)) () (by assumption) (by assumption) ?xs ?xo ?xi ?xp
            case xs => k_allIn
            case xo => exact off
            case xi => exact .inr ⟨_, .head _, rfl, _, rfl⟩
            case xp =>
              rw [take_snoc hn, List.map_append]
              exact ints_snoc hP
          case cd =>
            intro c ys3 hP3
            unfold LCg.FinE
            intro D3 h tk F' N' o3
            have N : News _ _ h ((D3, listOf ys3.toArray ys3.length) :: (Dv, listOf vsv.toArray 0) :: (sA.heap.objs.size + 1 + 1, oR) :: (sA.heap.objs.size + 1, oP) :: tabs) := N'
            clear N' FV NV
            rw [List.size_toArray, hsv, List.take_length] at hP3
            have hsm : (((movedF ns).drop 1).map fun x => x - 1).length < 1000 := by rw [List.length_map]; exact hsl
            (try k_fold)
            k_steps
  )
end
end Mine02


theorem PySem.Challenge.cw_gy0003_02_holds : PySem.Challenge.rw_gy0003_02.Holds :=
  Mine02.law_c
