import PyProof.Rows.All
import Wide.All
import OpenK.AllK
import Wide.FinOn
import Lean
import PySem.Challenge.RW_gy0003_01
open PySem PySem.W PyProof.Rows PySem.Calls
set_option Elab.async false

namespace Mine01
set_option maxRecDepth 100000 in
set_option maxHeartbeats 8000000 in
open_top hd for PySem.Challenge.rw_gy0003_01

section
def Stop (P : Prop) : Prop := P
theorem Stop.intro {P : Prop} (h : P) : Stop P := h
theorem Stop.out {P : Prop} (h : Stop P) : P := h
local macro_rules | `(tactic| k_memK) => `(tactic| ktr_member)
local macro_rules | `(tactic| walk_at "exec While") => `(tactic| (k_here; k_extra "myWhile"))
noncomputable def bisGo (ns : List Int) (x : Int) : Nat → Int → Int → Int
  | 0, lo, _ => lo
  | f + 1, lo, hi => if lo < hi then (if ns.getD (Int.fdiv (lo + hi) 2).toNat 0 < x then bisGo ns x f (Int.fdiv (lo + hi) 2 + 1) hi else bisGo ns x f lo (Int.fdiv (lo + hi) 2)) else lo
noncomputable def bisL (ns : List Int) (x : Int) : Int := bisGo ns x ns.length 0 ns.length
def BisEq (ns : List Int) (x lo hi : Int) : Prop := 0 ≤ lo ∧ lo ≤ hi ∧ hi ≤ ns.length ∧ ∃ f : Nat, hi - lo ≤ f ∧ bisGo ns x f lo hi = bisL ns x
abbrev BisW (ns : List Int) (x lo hi : Int) : Prop := 0 ≤ lo ∧ lo ≤ hi ∧ hi ≤ (ns.length : Int) ∧ BisEq ns x lo hi
theorem bis_start (ns : List Int) (x : Int) : BisW ns x 0 ns.length := ⟨by omega, by omega, by omega, by omega, by omega, by omega, ns.length, by omega, rfl⟩
theorem bis_fd {lo hi : Int} (h0 : 0 ≤ lo) (h1 : lo < hi) : 0 ≤ Int.fdiv (lo + hi) 2 ∧ lo ≤ Int.fdiv (lo + hi) 2 ∧ Int.fdiv (lo + hi) 2 < hi := by
  rw [Int.fdiv_eq_ediv_of_nonneg _ (by decide)]; omega
theorem bis_end {ns : List Int} {x lo hi : Int} (h : BisEq ns x lo hi) (hl : ¬ lo < hi) : lo = bisL ns x := by
  obtain ⟨_, _, _, f, h1, h2⟩ := h
  cases f with
  | zero => exact h2
  | succ f => rw [bisGo, if_neg hl] at h2; exact h2
theorem bis_up {ns : List Int} {x lo hi : Int} (h : BisEq ns x lo hi) (hl : lo < hi) (hx : ns.getD (Int.fdiv (lo + hi) 2).toNat 0 < x) : BisW ns x (Int.fdiv (lo + hi) 2 + 1) hi := by
  obtain ⟨a, b, c, f, h1, h2⟩ := h
  have d := bis_fd a hl
  cases f with
  | zero => omega
  | succ f => rw [bisGo, if_pos hl, if_pos hx] at h2; exact ⟨by omega, by omega, by omega, by omega, by omega, by omega, f, by omega, h2⟩
theorem bis_dn {ns : List Int} {x lo hi : Int} (h : BisEq ns x lo hi) (hl : lo < hi) (hx : ¬ ns.getD (Int.fdiv (lo + hi) 2).toNat 0 < x) : BisW ns x lo (Int.fdiv (lo + hi) 2) := by
  obtain ⟨a, b, c, f, h1, h2⟩ := h
  have d := bis_fd a hl
  cases f with
  | zero => omega
  | succ f => rw [bisGo, if_pos hl, if_neg hx] at h2; exact ⟨by omega, by omega, by omega, by omega, by omega, by omega, f, by omega, h2⟩
theorem bis_mu {lo hi : Int} (h0 : 0 ≤ lo) (hl : lo < hi) : (hi - (Int.fdiv (lo + hi) 2 + 1)).toNat < (hi - lo).toNat ∧ (Int.fdiv (lo + hi) 2 - lo).toNat < (hi - lo).toNat := by
  have d := bis_fd h0 hl
  omega
set_option maxRecDepth 100000 in
set_option maxHeartbeats 8000000 in
theorem bis_c {w : World} {loose : List Str} {mean : ExcName → Option Value} {mg mb : Str → Option Value} {dp un : Nat} {gd : Option (List Code)} {cn : Str} {cs : Scope} {a : Addr} {ccd : Value} {cl : List (Str × Addr)} {outer : List Env} {A₀ : Around} {base h₀ : Heap} {L : Addr} {m : Str → Option Value} {s : Shared} {Q E : Value → Shared → Prop}
   {news : List (Addr × Obj)} {l : Addr} {vs : List Value} {ns : List Int} {n : Nat} {x : Int} {t : Tok} {args : List Value} :
   (Mine01.hd.heap_39 w.params).In h₀ → Below A₀ base outer h₀ → Fr h₀ L s.heap m → News h₀ L s.heap news → Top topProg loose mean mg mb h₀ → cs.kind = .function →
   (args = [.ref l, .int x t] ∨ ∃ u, args = [.ref l, .int x t, .int 0 u, .none]) →
   (l, listOf vs.toArray n) ∈ news → IntsAre vs ns → ns.length < 2 ^ 20 → dp + 1 < recursionLimit → un + 8 < cLine → 
   (∀ t h' tk', Fr h₀ L h' m → News h₀ L h' news → Q (.int (bisL ns x) t) { s with heap := h', toks := tk' }) →
   wpAny (model PySem.Challenge.rw_gy0003_01.row.prog w) (ktrTop dp un gd cn cs L a ccd cl outer) (call (.ref 74) args) Q E s := by
  k_fill
  intro X B F N T hk ha hl hi hn hd hu hret
  have hM := kstMark
  k_with "myWhile" => k_while (fun _ lo hi => BisW ns x lo hi) (fun _ lo hi => (hi - lo).toNat) "lo" "hi"
  k_with "state" => first | exact bis_start _ _ | exact bis_up (by assumption) (by assumption) (by assumption) | exact bis_dn (by assumption) (by assumption) (by assumption)
  k_with "measure" => first | exact (bis_mu (by assumption) (by assumption)).1 | exact (bis_mu (by assumption) (by assumption)).2
  k_with "tree" => exact bis_end (by assumption) (by assumption)
  rcases ha with rfl | ⟨u, rfl⟩
  all_goals (
    refine wpAny_call ?_
    k_dflt (refine' code_def ?k1 ?k2 ?k3 ?k4 ?k5 ?kA ?kF ?kK ?k6 ?k7 ?k8 ?k9 ?kB ?_ ?c2 ?c3 ?c4 ?c5; (case kA => exact rfl); (case kF => exact rfl); (case kK => assumption); (case k1 => k_asm); (case k2 => k_asm); (case k3 => k_asm); (case k4 => k_asm); (case k5 => k_asm); (case k6 => k_is); (case k7 => k_is); (case k8 => ktr_room); (case k9 => first | exact BindsTo.of_eq rfl | exact kp_binds (by k_in) (fun _ => rfl)); (case c5 => decide); (case kB => exact locs rfl); (case c2 => exact rfl); (case c3 => exact rfl); (case c4 => exact rfl); k_whole; intro g' L' h' FG' F' N' B' X' T'; (try dsimp only); (try k_lift B'); (try k_fold))
    k_steps
    all_goals (cb_end hret))
end

section
theorem updF_upd {d : Addr} {o o' : Obj} : ∀ {l : List (Addr × Obj)} {g : Obj → List (Addr × Obj)}, UpdF d o l g → Upd d o o' l (g o')
  | _, _, .head h => .head h
  | _, _, .tail h r => .tail h (updF_upd r)
theorem updF_mem {d : Addr} {o : Obj} : ∀ {l : List (Addr × Obj)} {g : Obj → List (Addr × Obj)}, UpdF d o l g → (d, o) ∈ l
  | _, _, .head _ => .head _
  | _, _, .tail _ r => .tail _ (updF_mem r)
theorem bisGo_le (ns : List Int) (x : Int) : ∀ (f : Nat) (lo hi : Int), 0 ≤ lo → lo ≤ hi → lo ≤ bisGo ns x f lo hi ∧ bisGo ns x f lo hi ≤ hi
  | 0, lo, hi, _, h => by rw [bisGo]; omega
  | f + 1, lo, hi, h0, h => by
    rw [bisGo]
    by_cases hl : lo < hi
    · rw [if_pos hl]
      have d := bis_fd h0 hl
      split
      · have := bisGo_le ns x f (Int.fdiv (lo + hi) 2 + 1) hi (by omega) (by omega); omega
      · have := bisGo_le ns x f lo (Int.fdiv (lo + hi) 2) (by omega) (by omega); omega
    · rw [if_neg hl]; omega
theorem bisL_le (ns : List Int) (x : Int) : 0 ≤ bisL ns x ∧ bisL ns x ≤ ns.length := bisGo_le ns x _ _ _ (by omega) (by omega)
noncomputable def insL (ns : List Int) (x : Int) : List Int := ns.take (bisL ns x).toNat ++ x :: ns.drop (bisL ns x).toNat
theorem insL_len (ns : List Int) (x : Int) : (insL ns x).length = ns.length + 1 := by
  have := bisL_le ns x
  simp only [insL, List.length_append, List.length_take, List.length_cons, List.length_drop]; omega
theorem ins_ints {vs : List Value} {ns : List Int} {x : Int} {t : Tok} (h : IntsAre vs ns) : IntsAre (kl_ins vs (bisL ns x) (.int x t)) (insL ns x) := by
  have hb := bisL_le ns x
  have hl := h.length
  unfold kl_ins insL
  rw [if_neg (by omega), Nat.min_eq_left (by omega)]
  exact (h.take _).append (.cons x t (h.drop _))
section
variable {prog : Program} {w : World} {A : Around} {E : Value → Shared → Prop} {s : Shared} {h₀ h : Heap} {L D b : Addr} {m : Str → Option Value} {news news' pre post : List (Addr × Obj)} {vs : List Value} {n : Nat} {g : Obj → List (Addr × Obj)}
theorem insert_my {ns : List Int} {x : Int} {u t : Tok} {Q : Value → Shared → Prop} (F : Fr h₀ L s.heap m) (N : News h₀ L s.heap news) (U : UpdF D (listOf vs.toArray n) news g) (hi : IntsAre vs ns) (hn : ns.length < 2 ^ 20)
    (h : ∀ h' vs' n', IntsAre vs' (insL ns x) → Fr h₀ L h' m → News h₀ L h' (g (listOf vs'.toArray n')) → Q .none { s with heap := h' }) :
    wpAny (model prog w) A (call (.builtin "list.insert") [.ref D, .int (bisL ns x) u, .int x t]) Q E s := by
  have hb := bisL_le ns x
  have hl := hi.length
  exact kl_insert F N (by unfold Builtin.List.listFitsIndex; simp; omega) rfl (by simpa using updF_upd U) (by rw [sizeLine_eq]; simp; omega) (fun h' => h h' _ _ (ins_ints hi))
end

local macro_rules | `(tactic| k_memK) => `(tactic| ktr_member)
local macro_rules | `(tactic| k_updF) => `(tactic| assumption)
local macro_rules | `(tactic| walk_at "call ref") => `(tactic| (k_here; refine Stop.out ?_))
local macro_rules | `(tactic| walk_at "call builtin:list.insert") => `(tactic| (k_here; k_dflt (refine' insert_my ?F ?N ?U ?hi ?hn ?_; (case F | N => k_asm); (case U => k_updF); (case hi => assumption); (case hn => omega); k_whole; intro h9 vs9 n9 I9 F9 N9; (try dsimp only); (try k_fold))))

set_option maxRecDepth 100000 in
set_option maxHeartbeats 8000000 in
theorem ins_c {w : World} {loose : List Str} {mean : ExcName → Option Value} {mg mb : Str → Option Value} {dp un : Nat} {gd : Option (List Code)} {cn : Str} {cs : Scope} {a : Addr} {ccd : Value} {cl : List (Str × Addr)} {outer : List Env} {A₀ : Around} {base h₀ : Heap} {L : Addr} {m : Str → Option Value} {s : Shared} {Q E : Value → Shared → Prop}
   {news : List (Addr × Obj)} {g : Obj → List (Addr × Obj)} {l : Addr} {vs : List Value} {ns : List Int} {n : Nat} {x : Int} {t : Tok} :
   (Mine01.hd.heap_39 w.params).In h₀ → Below A₀ base outer h₀ → Fr h₀ L s.heap m → News h₀ L s.heap news → Top topProg loose mean mg mb h₀ → cs.kind = .function →
   UpdF l (listOf vs.toArray n) news g → IntsAre vs ns → ns.length < 2 ^ 20 → dp + 2 < recursionLimit → un + 16 < cLine → 
   (∀ vs' n' h' tk', IntsAre vs' (insL ns x) → Fr h₀ L h' m → News h₀ L h' (g (listOf vs'.toArray n')) → Q .none { s with heap := h', toks := tk' }) →
   wpAny (model PySem.Challenge.rw_gy0003_01.row.prog w) (ktrTop dp un gd cn cs L a ccd cl outer) (call (.ref 65) [.ref l, .int x t]) Q E s := by
  k_fill
  intro X B F N T hk hU hi hn hd hu hret
  have hM := kstMark
  have hl := updF_mem hU
  refine wpAny_call ?_
  k_dflt (refine' code_def ?k1 ?k2 ?k3 ?k4 ?k5 ?kA ?kF ?kK ?k6 ?k7 ?k8 ?k9 ?kB ?_ ?c2 ?c3 ?c4 ?c5; (case kA => exact rfl); (case kF => exact rfl); (case kK => assumption); (case k1 => k_asm); (case k2 => k_asm); (case k3 => k_asm); (case k4 => k_asm); (case k5 => k_asm); (case k6 => k_is); (case k7 => k_is); (case k8 => ktr_room); (case k9 => first | exact BindsTo.of_eq rfl | exact kp_binds (by k_in) (fun _ => rfl)); (case c5 => decide); (case kB => exact locs rfl); (case c2 => exact rfl); (case c3 => exact rfl); (case c4 => exact rfl); k_whole; intro g' L' h' FG' F' N' B' X' T'; (try dsimp only); (try k_lift B'); (try k_fold))
  k_steps
  refine Stop.intro ?_
  (k_dflt (refine' bis_c ?jX ?jB ?jF ?jN ?jT ?jkK ?jha ?jhl ?jhi ?jhn ?jhd ?jhu ?_; (case jha => first | exact .inl rfl | exact .inr ⟨_, rfl⟩); (case jX => k_asm); (case jB => k_asm); (case jF => k_asm); (case jN => k_asm); (case jT => k_asm); (case jkK => first | exact rfl | assumption); (case jhl => k_memK); (case jhi => assumption); (case jhn => omega); (case jhd => ktr_room); (case jhu => ktr_units); k_whole; intro t9 h9 tk9 F9 N9; (try dsimp only); (try k_fold)))
  k_steps
  all_goals exact hret _ _ _ _ (by assumption) (by assumption) (by assumption)
end

section
abbrev tup2 (q : Int) (t : Tok) (r : Int) (u : Tok) : Obj := { cls := .type "tuple", data := .seq #[.int q t, .int r u] }
theorem bits_le {x : Int} {k : Nat} (h : x.natAbs < 2 ^ k) : Builtin.Int.intBits x ≤ k := by
  unfold Builtin.Int.intBits
  split
  · omega
  · rename_i h0
    have : x.natAbs ≠ 0 := by simpa using h0
    have := (Nat.log2_lt this).mpr h
    omega
theorem dmod_my {prog : Program} {w : World} {A : Around} {E Q : Value → Shared → Prop} {s : Shared} {h₀ : Heap} {L : Addr} {m : Str → Option Value} {news : List (Addr × Obj)} {x b : Int} {t u : Tok} (F : Fr h₀ L s.heap m) (N : News h₀ L s.heap news) (hb : 0 < b) (hb2 : b < 2 ^ 30)
    (h : ∀ T t u h' tk', Fr h₀ L h' m → News h₀ L h' ((T, tup2 (x.fdiv b) t (x.fmod b) u) :: news) → (∀ p ∈ news, p.1 < T) → Q (.ref T) { s with heap := h', toks := tk' }) :
    wpAny (model prog w) A (call (.builtin "divmod") [.int x t, .int b u]) Q E s :=
  divmod_N F N (by omega) (fun h' F' N' => h _ _ _ _ _ F' N' fun p hp => Heap.lt_size (N p hp).1) (Or.inl (PyProof.noPylong_small (by omega)))
local macro_rules | `(tactic| walk_at "call builtin:divmod") => `(tactic| (k_here; k_dflt (refine' dmod_my ?F ?N ?b ?c ?_; (case F | N => k_asm); (case b | c => assumption); k_whole); intro T9 t9 u9 h9 tk9 F9 N9 l9))
set_option maxRecDepth 100000 in
set_option maxHeartbeats 8000000 in
theorem dv_c {w : World} {loose : List Str} {mean : ExcName → Option Value} {mg mb : Str → Option Value} {dp un : Nat} {gd : Option (List Code)} {cn : Str} {cs : Scope} {a : Addr} {ccd : Value} {cl : List (Str × Addr)} {outer : List Env} {A₀ : Around} {base h₀ : Heap} {L : Addr} {m : Str → Option Value} {s : Shared} {Q E : Value → Shared → Prop} {news : List (Addr × Obj)} {x b n : Int} {tx tb tn : Tok} :
   (Mine01.hd.heap_39 w.params).In h₀ → Below A₀ base outer h₀ → Fr h₀ L s.heap m → News h₀ L s.heap news → Top topProg loose mean mg mb h₀ → cs.kind = .function → 0 ≤ x → x < 2 ^ 62 → 0 < b → b < 2 ^ 30 → 0 ≤ n → dp + 1 < recursionLimit → un + 8 < cLine →
   (∀ T t u h' tk', Fr h₀ L h' m → News h₀ L h' ((T, tup2 (x.fdiv b) t (x.fmod b) u) :: news) → (∀ p ∈ news, p.1 < T) → Q (.ref T) { s with heap := h', toks := tk' }) →
   wpAny (model PySem.Challenge.rw_gy0003_01.row.prog w) (ktrTop dp un gd cn cs L a ccd cl outer) (call (.ref 21) [.int x tx, .int b tb, .int n tn]) Q E s := by
  k_fill
  intro X B F N T hk hx0 hx hb hb2 hn hd hu hret
  have hM := kstMark
  have hbits : (Builtin.Int.intBits x : Int) ≤ 62 := by have := bits_le (x := x) (k := 62) (by omega); omega
  refine wpAny_call ?_
  k_dflt (refine' code_def ?k1 ?k2 ?k3 ?k4 ?k5 ?kA ?kF ?kK ?k6 ?k7 ?k8 ?k9 ?kB ?_ ?c2 ?c3 ?c4 ?c5; (case kA => exact rfl); (case kF => exact rfl); (case kK => assumption); (case k1 => k_asm); (case k2 => k_asm); (case k3 => k_asm); (case k4 => k_asm); (case k5 => k_asm); (case k6 => k_is); (case k7 => k_is); (case k8 => ktr_room); (case k9 => first | exact BindsTo.of_eq rfl | exact kp_binds (by k_in) (fun _ => rfl)); (case c5 => decide); (case kB => exact locs rfl); (case c2 => exact rfl); (case c3 => exact rfl); (case c4 => exact rfl); k_whole; intro g' L' h' FG' F' N' B' X' T'; (try dsimp only); (try k_lift B'); (try k_fold))
  k_steps
  all_goals exact hret _ _ _ _ _ (by assumption) (by assumption) (by assumption)
end

theorem allLt_ne {d : Addr} {l : List (Addr × Obj)} : AllLt d l → ∀ p ∈ l, p.1 ≠ d := by
  induction l with
  | nil => intro _ p hp; cases hp
  | cons q r ih =>
    intro h p hp
    have h' : @LT.lt Nat _ q.1 d ∧ AllLt d r := h
    rcases List.mem_cons.mp hp with rfl | hp
    · exact Nat.ne_of_lt h'.1
    · exact ih h'.2 p hp
theorem lt_ne {d d' : Addr} {l : List (Addr × Obj)} (h : ∀ p ∈ l, p.1 < d) (hd : @LE.le Nat _ d d') : ∀ p ∈ l, p.1 ≠ d' := fun p hp => Nat.ne_of_lt (Nat.lt_of_lt_of_le (h p hp) hd)
theorem zeros_my {prog : Program} {w : World} {A : Around} {E Q : Value → Shared → Prop} {s : Shared} {h₀ : Heap} {L D : Addr} {m : Str → Option Value} {news : List (Addr × Obj)} {x z : Int} {t u : Tok} {k c : Nat} (F : Fr h₀ L s.heap m) (N : News h₀ L s.heap news) (hD : (D, listOf #[.int z t] c) ∈ news) (hx : x = (k : Int)) (hk : k < 1024)
    (h : ∀ D' h' vs', Fr h₀ L h' m → News h₀ L h' ((D', listOf vs'.toArray 0) :: news) → (∀ p ∈ news, p.1 < D') → IntsAre vs' (List.replicate k z) → Q (.ref D') { s with heap := h' }) :
    wpAny (model prog w) A (binaryOp .Mult (.ref D) (.int x u)) Q E s := by
  subst hx
  refine KM.mul F N (vs := [.int z t]) (ns := [z]) (News.isList N hD) (.cons z t .nil) (by omega) (by omega) (by simp; omega) fun D' h' F' N' l1 i1 _ _ _ _ _ => h D' h' _ F' N' l1 ?_
  have e : ∀ k : Nat, (List.replicate k [z]).flatten = List.replicate k z := by
    intro k
    induction k with
    | zero => rfl
    | succ k ih => rw [List.replicate_succ, List.replicate_succ, List.flatten_cons, ih]; rfl
  rw [e, Int.toNat_natCast] at i1
  exact i1
theorem updF_again {d : Addr} {o o' : Obj} : ∀ {l : List (Addr × Obj)} {g : Obj → List (Addr × Obj)}, UpdF d o l g → UpdF d o' (g o') g
  | _, _, .head h => .head h
  | _, _, .tail h r => .tail h (updF_again r)
theorem updF_other {d x : Addr} {o o' ox : Obj} (hx : x ≠ d) : ∀ {l : List (Addr × Obj)} {g : Obj → List (Addr × Obj)}, UpdF d o l g → (x, ox) ∈ l → (x, ox) ∈ g o'
  | _, _, .head h, hm => by
    rcases List.mem_cons.mp hm with e | hm
    · exact absurd (congrArg Prod.fst e) hx
    · exact .tail _ hm
  | _, _, .tail h r, hm => by
    rcases List.mem_cons.mp hm with e | hm
    · rw [e]; exact .head _
    · exact .tail _ (updF_other hx r hm)
/-! plain: figures in a base of powers of two -/
noncomputable def digs (N : Nat) : Nat → Int → List Int
  | 0, _ => []
  | k + 1, x => x % 2 ^ N :: digs N k (x / 2 ^ N)
theorem digs_len (N : Nat) : ∀ (k : Nat) (x : Int), (digs N k x).length = k
  | 0, _ => rfl
  | k + 1, x => by rw [digs, List.length_cons, digs_len]
theorem p2_pos (k : Nat) : (0 : Int) < 2 ^ k := Int.pow_pos (by decide)
theorem digs_mod (N : Nat) : ∀ (i : Nat) (x : Int), digs N i (x % 2 ^ (N * i)) = digs N i x
  | 0, _ => rfl
  | i + 1, x => by
    have e : (2 : Int) ^ (N * (i + 1)) = 2 ^ N * 2 ^ (N * i) := by rw [Nat.mul_succ, Nat.add_comm, Int.pow_add]
    rw [digs, digs, e]
    have a : x % (2 ^ N * 2 ^ (N * i)) % 2 ^ N = x % 2 ^ N := Int.emod_emod_of_dvd x (Int.dvd_mul_right _ _)
    have b : x % (2 ^ N * 2 ^ (N * i)) / 2 ^ N = x / 2 ^ N % 2 ^ (N * i) := by
      rw [Int.emod_def, Int.emod_def, Int.mul_assoc, Int.sub_mul_ediv_left _ _ (Int.ne_of_gt (p2_pos N)), Int.ediv_ediv_of_nonneg (Int.le_of_lt (p2_pos N))]
    rw [a, b, digs_mod N i]
theorem digs_add (N : Nat) : ∀ (i j : Nat) (x : Int), digs N (i + j) x = digs N i x ++ digs N j (x / 2 ^ (N * i))
  | 0, j, x => by simp [digs]
  | i + 1, j, x => by
    have e : (2 : Int) ^ (N * (i + 1)) = 2 ^ N * 2 ^ (N * i) := by rw [Nat.mul_succ, Nat.add_comm, Int.pow_add]
    rw [Nat.add_right_comm, digs, digs, digs_add N i j, e, ← Int.ediv_ediv_of_nonneg (Int.le_of_lt (p2_pos N))]; rfl
noncomputable def setD (ns : List Int) (i : Nat) (ds : List Int) : List Int := ns.take i ++ ds ++ ns.drop (i + ds.length)
theorem setD_len {ns ds : List Int} {i : Nat} (h : i + ds.length ≤ ns.length) : (setD ns i ds).length = ns.length := by
  simp only [setD, List.length_append, List.length_take, List.length_drop]; omega
theorem setD_one {ns : List Int} {i : Nat} {x : Int} (h : i < ns.length) : ns.set i x = setD ns i [x] := by
  rw [List.set_eq_take_append_cons_drop, if_pos h]; simp [setD]
theorem setD_two {ns a b : List Int} {i : Nat} (h : i + a.length + b.length ≤ ns.length) : setD (setD ns i a) (i + a.length) b = setD ns i (a ++ b) := by
  have hi : (ns.take i).length = i := by rw [List.length_take]; omega
  unfold setD
  have e1 : (List.take i ns ++ a ++ List.drop (i + a.length) ns).take (i + a.length) = List.take i ns ++ a := by
    rw [List.take_append_of_le_length (by rw [List.length_append, hi]; omega), List.take_of_length_le (by rw [List.length_append, hi]; omega)]
  have e2 : (List.take i ns ++ a ++ List.drop (i + a.length) ns).drop (i + a.length + b.length) = ns.drop (i + (a ++ b).length) := by
    rw [List.drop_append, List.drop_of_length_le (by rw [List.length_append, hi]; omega), List.nil_append, List.length_append, hi, List.drop_drop, List.length_append]
    congr 1; omega
  rw [e1, e2]; simp [List.append_assoc]
theorem leaf_eq {ns : List Int} {N : Nat} {L x : Int} (h0 : 0 ≤ L) (h1 : L < ns.length) (hx : 0 ≤ x) (hx2 : x < 2 ^ (N * 1)) : ns.set L.toNat x = setD ns L.toNat (digs N 1 x) := by
  rw [Nat.mul_one] at hx2
  rw [digs, digs, Int.emod_eq_of_lt hx hx2]
  exact setD_one (by omega)
theorem node_eq {ns : List Int} {N i j : Nat} {L M x : Int} (h0 : 0 ≤ L) (hM : M = L + i) (h1 : L + i + j ≤ ns.length) : setD (setD ns L.toNat (digs N i (x % 2 ^ (N * i)))) M.toNat (digs N j (x / 2 ^ (N * i))) = setD ns L.toNat (digs N (i + j) x) := by
  have e : M.toNat = L.toNat + (digs N i x).length := by rw [digs_len]; omega
  rw [digs_mod, e, setD_two (by rw [digs_len, digs_len]; omega), ← digs_add]
theorem and_low (n k : Nat) : n &&& (n / 2 ^ k * 2 ^ k) = n / 2 ^ k * 2 ^ k := by
  apply Nat.eq_of_testBit_eq
  intro j
  rw [Nat.testBit_and, Nat.testBit_mul_two_pow, Nat.testBit_div_two_pow]
  by_cases h : k ≤ j
  · have e : k + (j - k) = j := by omega
    have e' : j - k + k = j := by omega
    simp [h, e, e']
  · simp [h]
theorem xor_low {x : Int} {k : Nat} (hx : 0 ≤ x) : Builtin.bitXor x (x / 2 ^ k * 2 ^ k) = x % 2 ^ k := by
  have hp := p2_pos k
  have hy : 0 ≤ x / 2 ^ k * 2 ^ k := Int.mul_nonneg (Int.ediv_nonneg hx (Int.le_of_lt hp)) (Int.le_of_lt hp)
  have hd := Int.emod_def x (2 ^ k)
  rw [Int.mul_comm] at hd
  have e : ((x.toNat / 2 ^ k * 2 ^ k : Nat) : Int) = x / 2 ^ k * 2 ^ k := by
    rw [Int.natCast_mul, Int.natCast_ediv, kbt_cast, Int.toNat_of_nonneg hx]
  have e2 : (x / 2 ^ k * 2 ^ k).toNat = x.toNat / 2 ^ k * 2 ^ k := by rw [← e]; exact Int.toNat_natCast _
  rw [bitXor_and, bitAnd_pp hx hy, e2, and_low, e, hd]
  omega

/-! names for what a ledger bears -/
theorem name_one {h₀ h : Heap} {L D : Addr} {o : Obj} {news : List (Addr × Obj)} {P : Prop} (N : News h₀ L h ((D, o) :: news)) (k : ∀ d : Addr, d = D → P) : P := k _ rfl
theorem name_three {h₀ h : Heap} {L I D D' : Addr} {oI o2 : Obj} {vq : List Value} {cp : Nat} {news : List (Addr × Obj)} {P : Prop} (N : News h₀ L h ((I, oI) :: (D, o2) :: (D', listOf vq.toArray cp) :: news)) (k : ∀ (i d d' : Addr) (v : List Value) (c : Nat), i = I → d = D → d' = D' → v = vq → c = cp → P) : P := k _ _ _ _ _ rfl rfl rfl rfl rfl
theorem name_four {h₀ h : Heap} {L D D' c : Addr} {ot oc : Obj} {vs vs' : List Value} {cp' : Nat} {news : List (Addr × Obj)} {P : Prop} (N : News h₀ L h ((D, listOf vs.toArray 0) :: (D', listOf vs'.toArray cp') :: (30, ot) :: (c, oc) :: news)) (k : ∀ (d d' a : Addr) (v : List Value) (o : Obj), d = D → d' = D' → a = c → v = vs → o = oc → P) : P := k _ _ _ _ _ rfl rfl rfl rfl rfl

def InnC (w : World) (f D cA cN cI c' : Addr) (fo : Obj) (q : Str) (N k : Nat) : Prop :=
  ∀ {loose : List Str} {mean : ExcName → Option Value} {mg mb : Str → Option Value} {dp un : Nat} {gd : Option (List Code)} {cn : Str} {cs : Scope} {a : Addr} {ccd : Value} {cl : List (Str × Addr)} {outer : List Env} {A₀ : Around} {base h₀ : Heap} {L : Addr} {m : Str → Option Value} {s : Shared} {Q E : Value → Shared → Prop} {news : List (Addr × Obj)}
   {g : Obj → List (Addr × Obj)} {vs : List Value} {ns : List Int} {cap : Nat} {x lo hi : Int} {tx tl th tN t : Tok} {oA oN oI oc : Obj} {vc : Array Value},
   (Mine01.hd.heap_39 w.params).In h₀ → Below A₀ base outer h₀ → Fr h₀ L s.heap m → News h₀ L s.heap news → Top topProg loose mean mg mb h₀ → cs.kind = .function → CodeHd base 34 30 →
   (f, fo) ∈ news → (cA, oA) ∈ news → (cN, oN) ∈ news → (cI, oI) ∈ news → (c', oc) ∈ news → oA.data = .cell (some (.ref D)) → oN.data = .cell (some (.int (N : Int) tN)) → oI.data = .cell (some (.ref f)) →
   oc.data = .fields vc → vc[1]? = some (.str q t) → f ≠ D → cA ≠ D → cN ≠ D → cI ≠ D → c' ≠ D →
   UpdF D (listOf vs.toArray cap) news g → IntsAre vs ns → hi - lo = (k : Int) → 0 < k → 0 ≤ lo → hi ≤ (ns.length : Int) → ns.length < 1000 → 0 ≤ x → x < 2 ^ (N * k) → dp + 2 * k < recursionLimit → un + 16 * k < cLine →
   (∀ vs' cap' h' tk', IntsAre vs' (setD ns lo.toNat (digs N k x)) → Fr h₀ L h' m → News h₀ L h' (g (listOf vs'.toArray cap')) → Q .none { s with heap := h', toks := tk' }) →
   wpAny (model PySem.Challenge.rw_gy0003_01.row.prog w) (ktrTop dp un gd cn cs L a ccd cl outer) (call (.ref f) [.int x tx, .int lo tl, .int hi th]) Q E s
theorem inn_ih {w : World} {f D cA cN cI c' : Addr} {fo : Obj} {q : Str} {N k j : Nat} (h : ∀ i, i < k → InnC w f D cA cN cI c' fo q N i) (hj : j < k) : InnC w f D cA cN cI c' fo q N j := h j hj
theorem inn_at {w : World} {f D cA cN cI c' : Addr} {fo : Obj} {q : Str} {N j : Nat} (h : ∀ i, InnC w f D cA cN cI c' fo q N i) : InnC w f D cA cN cI c' fo q N j := h j
theorem inn_use {w : World} {h₀ h : Heap} {L f D c' l cI cA cN : Addr} {fo oD oc ol oI oA oN : Obj} {rest : List (Addr × Obj)} {q : Str} {t : Tok} {vc : Array Value} {P : Prop} (N : Nat) (_ : News h₀ L h ((f, fo) :: (c', oc) :: (D, oD) :: (l, ol) :: (cI, oI) :: (cA, oA) :: (cN, oN) :: rest))
   (_ : vc[1]? = some (.str q t)) (hI : ∀ k, InnC w f D cA cN cI c' fo q N k) (h : (∀ k, InnC w f D cA cN cI c' fo q N k) → P) : P := h hI
theorem allLt_lt {d : Addr} {l : List (Addr × Obj)} : AllLt d l → ∀ p ∈ l, p.1 < d := by
  induction l with
  | nil => intro _ p hp; cases hp
  | cons q r ih =>
    intro h p hp
    have h' : @LT.lt Nat _ q.1 d ∧ AllLt d r := h
    rcases List.mem_cons.mp hp with rfl | hp
    · exact h'.1
    · exact ih h'.2 p hp
theorem setD_all {k : Nat} {z : Int} {ds : List Int} (h : ds.length = k) : setD (List.replicate k z) (0 : Int).toNat ds = ds := by
  have e : (0 : Int).toNat = 0 := rfl
  rw [setD, e, List.take_zero, List.nil_append, List.drop_of_length_le (by rw [List.length_replicate]; omega), List.append_nil]
theorem len_my {prog : Program} {w : World} {A : Around} {E Q : Value → Shared → Prop} {s : Shared} {h₀ : Heap} {L D : Addr} {news : List (Addr × Obj)} {vs : List Value} {c n : Nat} (N : News h₀ L s.heap news) (hm : (D, listOf vs.toArray c) ∈ news) (hs : vs.length = n) (hf : n < 2 ^ 62) (h : Q (.int (n : Nat) (s.toks + 1)) { s with toks := s.toks + 1 + 1 }) :
    wpAny (model prog w) A (call (.builtin "len") [.ref D]) Q E s := KM.len_K N hm (by rw [List.size_toArray]; exact hs) hf h
theorem fits_of {a : Int} {k n : Nat} (h : a.natAbs < 2 ^ k) (hk : k + n ≤ 100000) : (Builtin.Int.intBits a : Int) + (n : Int) ≤ 2 ^ 27 := by
  have := bits_le h
  omega
theorem mid_my {prog : Program} {w : World} {A : Around} {E Q : Value → Shared → Prop} {s : Shared} {x y : Int} {t u : Tok} (e : x.fdiv 2 = y) (h : ∀ t tk, Q (.int y t) { s with toks := tk }) : wpAny (model prog w) A (binaryOp .RShift (.int x t) (.int 1 u)) Q E s :=
  rshift_int (by decide) (by have e' : x.fdiv (2 ^ (1 : Int).toNat) = y := e
                             rw [e']; exact h _ _)
theorem rsh_my {prog : Program} {w : World} {A : Around} {E Q : Value → Shared → Prop} {s : Shared} {x n : Int} {t u : Tok} {k : Nat} (hn : n = (k : Int)) (h : ∀ t tk, Q (.int (x / 2 ^ k) t) { s with toks := tk }) : wpAny (model prog w) A (binaryOp .RShift (.int x t) (.int n u)) Q E s := by
  subst hn
  refine rshift_int (by omega) ?_
  rw [Int.toNat_natCast, Int.fdiv_eq_ediv_of_nonneg _ (Int.le_of_lt (p2_pos k))]; exact h _ _
theorem lsh_my {prog : Program} {w : World} {A : Around} {E Q : Value → Shared → Prop} {s : Shared} {x n : Int} {t u : Tok} {k b : Nat} (hn : n = (k : Int)) (h0 : 0 ≤ x) (hb : x < 2 ^ b) (hk : b + k ≤ 100000) (h : ∀ t tk, Q (.int (x * 2 ^ k) t) { s with toks := tk }) : wpAny (model prog w) A (binaryOp .LShift (.int x t) (.int n u)) Q E s := by
  subst hn
  have hb' : x.natAbs < 2 ^ b := by
    have : ((2 ^ b : Nat) : Int) = 2 ^ b := kbt_cast b
    omega
  refine lshift_int (by omega) (fits_of hb' hk) ?_
  rw [Int.toNat_natCast]; exact h _ _
theorem xor_my {prog : Program} {w : World} {A : Around} {E Q : Value → Shared → Prop} {s : Shared} {x : Int} {t u : Tok} {k : Nat} (h0 : 0 ≤ x) (h : ∀ t tk, Q (.int (x % 2 ^ k) t) { s with toks := tk }) : wpAny (model prog w) A (binaryOp .BitXor (.int x t) (.int (x / 2 ^ k * 2 ^ k) u)) Q E s :=
  xor_int (by rw [xor_low h0]; exact h _ _)
theorem mulc_my {prog : Program} {w : World} {A : Around} {E Q : Value → Shared → Prop} {s : Shared} {x : Int} {t u : Tok} {i n : Nat} (e : x = (i : Int)) (hn : n < 1000) (h : ∀ t tk, Q (.int ((n * i : Nat) : Int) t) { s with toks := tk }) : wpAny (model prog w) A (binaryOp .Mult (.int x t) (.int (n : Int) u)) Q E s := by
  subst e
  refine PyProof.Rows.mul_int ?_ (IntMulOk.of_right (PySem.intBits_le_64 (by omega) (by omega)))
  rw [Int.mul_comm, ← Int.natCast_mul]; exact h _ _
theorem up_facts {x : Int} {N i j : Nat} (h0 : 0 ≤ x) (h1 : x < 2 ^ (N * (i + j))) : 0 ≤ x % 2 ^ (N * i) ∧ x % 2 ^ (N * i) < 2 ^ (N * i) ∧ 0 ≤ x / 2 ^ (N * i) ∧ x / 2 ^ (N * i) < 2 ^ (N * j) := by
  have hp := p2_pos (N * i)
  refine ⟨Int.emod_nonneg _ (Int.ne_of_gt hp), Int.emod_lt_of_pos _ hp, Int.ediv_nonneg h0 (Int.le_of_lt hp), ?_⟩
  rw [Nat.mul_add, Int.pow_add, Int.mul_comm] at h1
  exact Int.ediv_lt_of_lt_mul hp h1
section
local macro_rules | `(tactic| k_memK) => `(tactic| first | exact List.Mem.head _ | (refine List.Mem.tail _ ?_; k_memK) | assumption | exact updF_other (by assumption) (by assumption) (by assumption))
local macro_rules | `(tactic| k_mem) => `(tactic| first | exact List.Mem.head _ | (refine List.Mem.tail _ ?_; k_mem) | assumption | exact updF_other (by assumption) (by assumption) (by assumption))
local macro_rules | `(tactic| k_ownIn) => `(tactic| first | assumption | (refine List.Mem.tail _ ?_; k_ownIn))
local macro_rules | `(tactic| k_allIn) => `(tactic| first | (refine List.forall_mem_cons.mpr ⟨by k_memK, ?_⟩; k_allIn) | (intro p hp; k_ownIn))
local macro_rules | `(tactic| walk_at "ite") => `(tactic| (k_here; k_openite; first | (refine ite_pos (by (simp only [beq_iff_eq, bne_iff_ne, decide_eq_true_eq]; omega)) ?_) | (refine ite_neg (by (simp only [beq_iff_eq, bne_iff_ne, decide_eq_true_eq]; omega)) ?_)))
local macro_rules | `(tactic| walk_at "binaryOp RShift int int") => `(tactic| (k_here; (first | (with_reducible refine' rsh_my ?e ?_; (case e => exact Eq.refl (Nat.cast _))) | (with_reducible refine' mid_my ?e ?_; (case e => assumption))); intro t9 tk9))
local macro_rules | `(tactic| walk_at "binaryOp LShift int int") => `(tactic| (k_here; k_dflt (refine' lsh_my ?e ?a ?b ?c ?_; (case e => with_reducible rfl); (case a | b | c => assumption)); intro t9 tk9))
local macro_rules | `(tactic| walk_at "binaryOp BitXor int int") => `(tactic| (k_here; k_dflt (refine' xor_my ?a ?_; (case a => assumption)); intro t9 tk9))
local macro_rules | `(tactic| walk_at "binaryOp Mult int int") => `(tactic| (k_here; k_dflt (refine' mulc_my ?e ?n ?_; (case e => assumption); (case n => omega)); intro t9 tk9))
local macro_rules | `(tactic| walk_at "call builtin:len") => `(tactic| (k_here; k_dflt (refine' len_my ?N ?m ?s ?f ?_; (case N => k_asm); (case m => k_mem); (case s => assumption); (case f => omega))))
local macro_rules | `(tactic| walk_at "call ref") => `(tactic| (k_here; refine Stop.out ?_))
local macro_rules | `(tactic| walk_at "setItem ref int") => `(tactic| (k_here; k_dflt (refine' ksa_set ?k1 ?k2 (updF_upd ?k3) ?k4 ?k5 ?k6 ?k7 ?_; (case k1 | k2 => k_asm); (case k3 | k4 => assumption); (case k5 | k6 | k7 => omega)); intro h9 F9 N9 i9 l9 s9))
local macro_rules | `(tactic| k_all) => `(tactic| first | assumption | (refine allLt_ne ?_; first | assumption | exact And.right (by assumption) | exact And.right (And.right (by assumption)) | exact And.right (And.right (And.right (by assumption))) | exact And.right (And.right (And.right (And.right (by assumption)))) | exact And.right (And.right (And.right (And.right (And.right (by assumption)))))) | exact lt_ne (by assumption) (by omega))
local macro_rules | `(tactic| k_updF) => `(tactic| first | assumption | (refine' UpdF.head ?a; (case a => k_all)) | (refine' UpdF.tail ?a ?b; (case a => k_ne); (case b => k_updF)))
local macro_rules | `(tactic| walk_at "binaryOp Mult ref int") => `(tactic| (k_here; k_dflt (refine' zeros_my ?F ?N ?D ?x ?k ?_; (case F | N => k_asm); (case D => k_mem); (case x => assumption); (case k => omega); k_whole); intro D9 h9 vs9 F9 N9 l9 i9; (try k_lt l9)))
local macro_rules | `(tactic| walk_at "exec FunctionDef") => `(tactic| (k_here; refine Stop.out ?_))
set_option maxRecDepth 100000 in
set_option maxHeartbeats 8000000 in
theorem i2_f {w : World} {loose : List Str} {mean : ExcName → Option Value} {mg mb : Str → Option Value} {dp un : Nat} {gd : Option (List Code)} {cn : Str} {cs : Scope} {a : Addr} {ccd : Value} {cl : List (Str × Addr)} {outer : List Env} {A₀ : Around} {base h₀ : Heap} {L : Addr} {m : Str → Option Value} {s : Shared} {Q E : Value → Shared → Prop} {news : List (Addr × Obj)} {x n : Int} {tx tn : Tok} {k nb : Nat} :
   (Mine01.hd.heap_39 w.params).In h₀ → Below A₀ base outer h₀ → Fr h₀ L s.heap m → News h₀ L s.heap ((30, tabObj #[]) :: news) → Top topProg loose mean mg mb h₀ → cs.kind = .function →
   CodeHd base 34 30 → (∀ p ∈ news, p.1 ≠ 30) → 0 ≤ x → x < 2 ^ 40 → n = (nb : Int) → 1 ≤ n → n ≤ 30 → ((Builtin.Int.intBits x : Int) + n - 1).fdiv n = (k : Int) → k < 100 → x < 2 ^ (nb * k) → (k = 0 ↔ x = 0) → dp + 300 < recursionLimit → un + 3000 < cLine →
   (∀ D vs' cap c' oc vc t h' tk', IntsAre vs' (digs nb k x) → Fr h₀ L h' m → News h₀ L h' ((D, listOf vs'.toArray cap) :: (30, tabObj #[rawInt 32, rawInt 4, .ref c']) :: (c', oc) :: news) → (∀ p ∈ news, p.1 < D) → @LT.lt Nat _ 30 D → @LT.lt Nat _ D c' → oc.data = .fields vc → vc[1]? = some (.str (Str.ofString "_int2digits.<locals>.inner") t) → Q (.ref D) { s with heap := h', toks := tk' }) →
   wpAny (model PySem.Challenge.rw_gy0003_01.row.prog w) (ktrTop dp un gd cn cs L a ccd cl outer) (call (.ref 35) [.int x tx, .int n tn]) Q E s := by
  k_fill
  intro X B F N T hk hC h30 hx0 hx hnN hn hn2 hkk hk2 hxk hk0 hd hu hret
  subst hnN
  have hM := kstMark
  have hbits : (Builtin.Int.intBits x : Int) ≤ 40 := by have := bits_le (x := x) (k := 40) (by omega); omega
  refine wpAny_call ?_
  k_dflt (refine' code_defC ?k1 ?k2 ?k3 ?k4 ?k5 ?kA ?kF ?kK ?k6 ?k7 ?k8 ?k9 ?kB ?kD ?_ ?c2 ?c3 ?c4; (case kA => exact rfl); (case kF => exact rfl); (case kK => assumption); (case k1 => k_asm); (case k2 => k_asm); (case k3 => k_asm); (case k4 => k_asm); (case k5 => k_asm); (case k6 => k_is); (case k7 => k_is); (case k8 => ktr_room); (case k9 => first | exact BindsTo.of_eq rfl | exact kp_binds (by k_in) (fun _ => rfl)); (case kB => exact rfl); (case kD => decide +kernel); (case c2 => exact rfl); (case c3 => exact rfl); (case c4 => exact rfl); k_whole; intro g' L' h' tk' cells' FG' F' N' Y' B' X' T' l1; k_cells Y'; (try simp only [List.cons_append, List.nil_append] at N'); (try dsimp only); (try k_lift B'); (try k_fold))
  have l30 : @LT.lt Nat _ 30 L' := l1 _ (.head _)
  have l1n : ∀ p ∈ news, p.1 < L' := fun p hp => l1 p (.tail _ hp)
  k_steps
  all_goals (refine Stop.intro ?_)
  all_goals k_dflt (refine' nestDef_K ?d0 ?k0 ?a0 ?_; (case d0 => exact rfl); (case k0 => exact rfl); (case a0 => exact rfl))
  all_goals k_dflt (refine' nest_K ?xF ?xN ?xT ?xC ?xcd ?xU ?xt ?xn ?xcl ?_; (case xF => k_asm); (case xN => k_asm); (case xT => k_asm); (case xcd => exact rfl); (case xC => kn_code); (case xU => k_updF); (case xt => kn_triples); (case xn => kn_among); (case xcl => exact rfl); k_whole)
  intro fI cI ocI vcI tI ctI dcI hI tkI FI NI dI1 dI2 lI1 lI2
  dsimp only at NI
  k_lt lI1
  k_lt2 lI2
  refine inn_use (w := w) nb NI dI2 ?_ ?_
  · intro k
    induction k using Nat.strongRecOn with
    | ind k IH =>
    unfold InnC
    intro loose2 mean2 mg2 mb2 dp2 un2 gd2 cn2 cs2 a2 ccd2 cl2 outer2 A2 base2 h2 L2 m2 s2 Q2 E2 news2 g2 vs2 ns2 cap2 x2 lo hi tx2 tl2 th2 tN2 t2 oA2 oN2 oI2 oc2 vc2 X2 B2 F2 N2 T2 hk2' hC2 mf mA mN mI mc dA dN dI dc dq nf nA nN nI nc U2 I2 hlen hk0 hlo hhi hlen2 hx0 hx1 hd2 hu2 ret2
    refine wpAny_call ?_
    k_dflt (refine' code_nest ?k1 ?k2 ?k3 ?k4 ?k5 ?kA ?kF ?kK ?k6 ?k7 ?k8 ?k9 ?kB ?_ ?c2 ?c3 ?c4 ?c5; (case kA => exact rfl); (case kF => exact rfl); (case kK => assumption); (case k1 => exact B2); (case k2 => exact F2); (case k3 => exact X2); (case k4 => exact N2); (case k5 => exact T2); (case k6 => exact mf); (case k7 => exact codeRec_news N2 mc dc dq); (case k8 => ktr_room); (case k9 => exact BindsTo.of_eq rfl); (case c5 => decide); (case kB => exact locs rfl); (case c2 => exact rfl); (case c3 => exact rfl); (case c4 => exact rfl); k_whole; intro g' L' h' FG' F' N' B' X' T'; (try dsimp only); (try k_lift B'); (try k_fold))
    by_cases hone : lo + 1 = hi
    · obtain rfl : k = 1 := by omega
      k_steps
      refine ret2 _ _ _ _ ?_ (by assumption) (by assumption)
      rw [← leaf_eq hlo (by omega) hx0 hx1]
      assumption
    · obtain ⟨i, j, hij, hi0, hj0, hmid⟩ : ∃ i j : Nat, k = i + j ∧ 0 < i ∧ 0 < j ∧ (lo + hi).fdiv 2 = lo + (i : Int) := by
        refine ⟨k / 2, k - k / 2, by omega, by omega, by omega, ?_⟩
        rw [Int.fdiv_eq_ediv_of_nonneg _ (by decide)]; omega
      subst hij
      have hsh : lo + (i : Int) - lo = (i : Int) := by omega
      obtain ⟨hlw0, hlw1, hup0, hup1⟩ := up_facts hx0 hx1
      have hsz1 : nb * j + nb * i ≤ 100000 := by
        have h1 : nb * (j + i) ≤ 30 * (j + i) := Nat.mul_le_mul_right _ (by omega)
        have h2 : j + i ≤ 1000 := by omega
        rw [← Nat.mul_add]; omega
      k_steps
      refine Stop.intro ?_
      (k_dflt (refine' inn_ih ?jih ?jlt ?jX ?jB ?jF ?jN ?jT ?jhk ?jhC ?jmf ?jmA ?jmN ?jmI ?jmc ?jdA ?jdN ?jdI ?jdc ?jdq ?jnf ?jnA ?jnN ?jnI ?jnc ?jU ?jI ?jhlen ?jhk0 ?jhlo ?jhhi ?jhln ?jhx0 ?jhx1 ?jhd ?jhu ?_; (case jih => assumption); (case jhx0 => assumption); (case jhx1 => assumption); (case jhlen => omega); (case jlt => omega); (case jX => k_asm); (case jB => k_asm); (case jF => k_asm); (case jN => k_asm); (case jT => k_asm); (case jhk => first | exact rfl | assumption); (case jhC => k_asm); (case jmf => k_mem); (case jmA => k_mem); (case jmN => k_mem); (case jmI => k_mem); (case jmc => k_mem); (case jdA => assumption); (case jdN => assumption); (case jdI => assumption); (case jdc => assumption); (case jdq => assumption); (case jnf => assumption); (case jnA => assumption); (case jnN => assumption); (case jnI => assumption); (case jnc => assumption); (case jU => first | assumption | exact updF_again (by assumption)); (case jI => assumption); (case jhk0 => omega); (case jhlo => omega); (case jhhi => first | omega | (rw [setD_len (by rw [digs_len]; omega)]; omega)); (case jhln => first | omega | (rw [setD_len (by rw [digs_len]; omega)]; omega)); (case jhd => ktr_room); (case jhu => ktr_units)); intro vs9 cp9 h9 tk9 i9 F9 N9; (try dsimp only); (try k_fold))
      k_steps
      refine Stop.intro ?_
      (k_dflt (refine' inn_ih ?jih ?jlt ?jX ?jB ?jF ?jN ?jT ?jhk ?jhC ?jmf ?jmA ?jmN ?jmI ?jmc ?jdA ?jdN ?jdI ?jdc ?jdq ?jnf ?jnA ?jnN ?jnI ?jnc ?jU ?jI ?jhlen ?jhk0 ?jhlo ?jhhi ?jhln ?jhx0 ?jhx1 ?jhd ?jhu ?_; (case jih => assumption); (case jhx0 => assumption); (case jhx1 => assumption); (case jhlen => omega); (case jlt => omega); (case jX => k_asm); (case jB => k_asm); (case jF => k_asm); (case jN => k_asm); (case jT => k_asm); (case jhk => first | exact rfl | assumption); (case jhC => k_asm); (case jmf => k_mem); (case jmA => k_mem); (case jmN => k_mem); (case jmI => k_mem); (case jmc => k_mem); (case jdA => assumption); (case jdN => assumption); (case jdI => assumption); (case jdc => assumption); (case jdq => assumption); (case jnf => assumption); (case jnA => assumption); (case jnN => assumption); (case jnI => assumption); (case jnc => assumption); (case jU => first | assumption | exact updF_again (by assumption)); (case jI => assumption); (case jhk0 => omega); (case jhlo => omega); (case jhhi => first | omega | (rw [setD_len (by rw [digs_len]; omega)]; omega)); (case jhln => first | omega | (rw [setD_len (by rw [digs_len]; omega)]; omega)); (case jhd => ktr_room); (case jhu => ktr_units)); intro vs9 cp9 h9 tk9 i9 F9 N9; (try dsimp only); (try k_fold))
      k_steps
      refine ret2 _ _ _ _ ?_ (by assumption) (by assumption)
      rw [← node_eq (M := lo + (i : Int)) hlo rfl (by omega)]
      assumption
  · intro hInn
    k_dflt (refine' storeX_C ?yF ?yN ?yc ?yU ?yd ?_ ?ya ?yb; (case ya => rfl); (case yb => rfl); (case yF => k_asm); (case yN => k_asm); (case yc => rfl); (case yU => k_updF); (case yd => k_asm); k_whole)
    intro hJ oJ FJ NJ dJ
    (try dsimp only at NJ)
    have hlenJ := IntsAre.length ‹IntsAre _ (List.replicate k 0)›
    rw [List.length_replicate] at hlenJ
    by_cases hx00 : x = 0
    · obtain rfl : k = 0 := hk0.mpr hx00
      k_steps
      refine' hret _ _ _ cI ocI _ tI _ _ ?e1 (by assumption) (cb_drop (by assumption) ?e2) ?e3 ?e4 ?e5 dI1 dI2
      case e2 => k_allIn
      case e1 => assumption
      case e3 => exact allLt_lt (And.right (And.right (And.right (And.right (And.right (by assumption))))))
      case e4 => omega
      case e5 => omega
    · have hkpos : 0 < k := by omega
      k_steps
      refine Stop.intro ?_
      (k_dflt (refine' inn_at ?jih ?jX ?jB ?jF ?jN ?jT ?jhk ?jhC ?jmf ?jmA ?jmN ?jmI ?jmc ?jdA ?jdN ?jdI ?jdc ?jdq ?jnf ?jnA ?jnN ?jnI ?jnc ?jU ?jI ?jhlen ?jhk0 ?jhlo ?jhhi ?jhln ?jhx0 ?jhx1 ?jhd ?jhu ?_; (case jih => assumption); (case jhx0 => assumption); (case jhx1 => assumption); (case jhlen => omega); (case jX => k_asm); (case jB => k_asm); (case jF => k_asm); (case jN => k_asm); (case jT => k_asm); (case jhk => first | exact rfl | assumption); (case jhC => k_asm); (case jmf => k_mem); (case jmA => k_mem); (case jmN => k_mem); (case jmI => k_mem); (case jmc => k_mem); (case jdA => assumption); (case jdN => assumption); (case jdI => assumption); (case jdc => assumption); (case jdq => assumption); (case jnf => k_ne); (case jnA => k_ne); (case jnN => k_ne); (case jnI => k_ne); (case jnc => k_ne); (case jU => k_updF); (case jI => assumption); (case jhk0 => omega); (case jhlo => omega); (case jhhi => first | (rw [List.length_replicate]; omega) | omega | (rw [setD_len (by rw [digs_len]; omega)]; omega)); (case jhln => first | (rw [List.length_replicate]; omega) | omega | (rw [setD_len (by rw [digs_len]; omega)]; omega)); (case jhd => ktr_room); (case jhu => ktr_units)); intro vs9 cp9 h9 tk9 i9 F9 N9; (try dsimp only); (try k_fold))
      k_steps
      refine' hret _ _ _ cI ocI _ tI _ _ ?e1 (by assumption) (cb_drop (by assumption) ?e2) ?e3 ?e4 ?e5 dI1 dI2
      case e2 => k_allIn
      case e1 =>
        rw [← setD_all (k := k) (z := 0) (digs_len nb k x)]
        assumption
      case e3 => exact allLt_lt (And.right (And.right (And.right (And.right (And.right (by assumption))))))
      case e4 => omega
      case e5 => omega
theorem inn_useB {w : World} {h₀ h : Heap} {L f D c' l cI cA cN : Addr} {fo oD ol oI oA oN : Obj} {rest : List (Addr × Obj)} {q : Str} {t : Tok} {vc : Array Value} {P : Prop} (N : Nat) (_ : News h₀ L h ((f, fo) :: (D, oD) :: (l, ol) :: (cI, oI) :: (cA, oA) :: (cN, oN) :: rest))
   (_ : vc[1]? = some (.str q t)) (hI : ∀ k, InnC w f D cA cN cI c' fo q N k) (h : (∀ k, InnC w f D cA cN cI c' fo q N k) → P) : P := h hI
set_option maxRecDepth 100000 in
set_option maxHeartbeats 8000000 in
theorem i2_b {w : World} {loose : List Str} {mean : ExcName → Option Value} {mg mb : Str → Option Value} {dp un : Nat} {gd : Option (List Code)} {cn : Str} {cs : Scope} {a : Addr} {ccd : Value} {cl : List (Str × Addr)} {outer : List Env} {A₀ : Around} {base h₀ : Heap} {L : Addr} {m : Str → Option Value} {s : Shared} {Q E : Value → Shared → Prop} {news : List (Addr × Obj)} {x n : Int} {tx tn : Tok} {k nb : Nat} {c' : Addr} {oc : Obj} {vc : Array Value} {tq : Tok} :
   (Mine01.hd.heap_39 w.params).In h₀ → Below A₀ base outer h₀ → Fr h₀ L s.heap m → News h₀ L s.heap news → Top topProg loose mean mg mb h₀ → cs.kind = .function →
   CodeHd base 34 30 → (30, tabObj #[rawInt 32, rawInt 4, .ref c']) ∈ news → (c', oc) ∈ news → oc.data = .fields vc → vc[1]? = some (.str (Str.ofString "_int2digits.<locals>.inner") tq) → 0 ≤ x → x < 2 ^ 40 → n = (nb : Int) → 1 ≤ n → n ≤ 30 → ((Builtin.Int.intBits x : Int) + n - 1).fdiv n = (k : Int) → k < 100 → x < 2 ^ (nb * k) → (k = 0 ↔ x = 0) → dp + 300 < recursionLimit → un + 3000 < cLine →
   (∀ D vs' cap h' tk', IntsAre vs' (digs nb k x) → Fr h₀ L h' m → News h₀ L h' ((D, listOf vs'.toArray cap) :: news) → (∀ p ∈ news, p.1 < D) → Q (.ref D) { s with heap := h', toks := tk' }) →
   wpAny (model PySem.Challenge.rw_gy0003_01.row.prog w) (ktrTop dp un gd cn cs L a ccd cl outer) (call (.ref 35) [.int x tx, .int n tn]) Q E s := by
  k_fill
  intro X B F N T hk hC h30 hcm hcd hcq hx0 hx hnN hn hn2 hkk hk2 hxk hk0 hd hu hret
  subst hnN
  have hM := kstMark
  have hbits : (Builtin.Int.intBits x : Int) ≤ 40 := by have := bits_le (x := x) (k := 40) (by omega); omega
  refine wpAny_call ?_
  k_dflt (refine' code_defC ?k1 ?k2 ?k3 ?k4 ?k5 ?kA ?kF ?kK ?k6 ?k7 ?k8 ?k9 ?kB ?kD ?_ ?c2 ?c3 ?c4; (case kA => exact rfl); (case kF => exact rfl); (case kK => assumption); (case k1 => k_asm); (case k2 => k_asm); (case k3 => k_asm); (case k4 => k_asm); (case k5 => k_asm); (case k6 => k_is); (case k7 => k_is); (case k8 => ktr_room); (case k9 => first | exact BindsTo.of_eq rfl | exact kp_binds (by k_in) (fun _ => rfl)); (case kB => exact rfl); (case kD => decide +kernel); (case c2 => exact rfl); (case c3 => exact rfl); (case c4 => exact rfl); k_whole; intro g' L' h' tk' cells' FG' F' N' Y' B' X' T' l1; k_cells Y'; (try simp only [List.cons_append, List.nil_append] at N'); (try dsimp only); (try k_lift B'); (try k_fold))
  have l30 : @LT.lt Nat _ 30 L' := l1 _ h30
  have lc : @LT.lt Nat _ c' L' := l1 _ hcm
  k_steps
  all_goals (refine Stop.intro ?_)
  all_goals k_dflt (refine' nestDef_K ?d0 ?k0 ?a0 ?_; (case d0 => exact rfl); (case k0 => exact rfl); (case a0 => exact rfl))
  all_goals k_dflt (refine' nestHit_K ?xF ?xN ?xT ?xC ?xcd ?xm ?xt ?xn ?xcl ?_; (case xF => k_asm); (case xN => k_asm); (case xT => k_asm); (case xcd => exact rfl); (case xC => kn_code); (case xm => k_mem); (case xt => kn_triples); (case xn => kn_hit); (case xcl => exact rfl); k_whole)
  intro fI ctI dcI hI tkI FI NI lI1
  (try dsimp only at NI)
  k_lt lI1
  refine inn_useB (w := w) nb NI (c' := c') hcq ?_ ?_
  · intro k
    induction k using Nat.strongRecOn with
    | ind k IH =>
    unfold InnC
    intro loose2 mean2 mg2 mb2 dp2 un2 gd2 cn2 cs2 a2 ccd2 cl2 outer2 A2 base2 h2 L2 m2 s2 Q2 E2 news2 g2 vs2 ns2 cap2 x2 lo hi tx2 tl2 th2 tN2 t2 oA2 oN2 oI2 oc2 vc2 X2 B2 F2 N2 T2 hk2' hC2 mf mA mN mI mc dA dN dI dc dq nf nA nN nI nc U2 I2 hlen hk0 hlo hhi hlen2 hx0 hx1 hd2 hu2 ret2
    refine wpAny_call ?_
    k_dflt (refine' code_nest ?k1 ?k2 ?k3 ?k4 ?k5 ?kA ?kF ?kK ?k6 ?k7 ?k8 ?k9 ?kB ?_ ?c2 ?c3 ?c4 ?c5; (case kA => exact rfl); (case kF => exact rfl); (case kK => assumption); (case k1 => exact B2); (case k2 => exact F2); (case k3 => exact X2); (case k4 => exact N2); (case k5 => exact T2); (case k6 => exact mf); (case k7 => exact codeRec_news N2 mc dc dq); (case k8 => ktr_room); (case k9 => exact BindsTo.of_eq rfl); (case c5 => decide); (case kB => exact locs rfl); (case c2 => exact rfl); (case c3 => exact rfl); (case c4 => exact rfl); k_whole; intro g' L' h' FG' F' N' B' X' T'; (try dsimp only); (try k_lift B'); (try k_fold))
    by_cases hone : lo + 1 = hi
    · obtain rfl : k = 1 := by omega
      k_steps
      refine ret2 _ _ _ _ ?_ (by assumption) (by assumption)
      rw [← leaf_eq hlo (by omega) hx0 hx1]
      assumption
    · obtain ⟨i, j, hij, hi0, hj0, hmid⟩ : ∃ i j : Nat, k = i + j ∧ 0 < i ∧ 0 < j ∧ (lo + hi).fdiv 2 = lo + (i : Int) := by
        refine ⟨k / 2, k - k / 2, by omega, by omega, by omega, ?_⟩
        rw [Int.fdiv_eq_ediv_of_nonneg _ (by decide)]; omega
      subst hij
      have hsh : lo + (i : Int) - lo = (i : Int) := by omega
      obtain ⟨hlw0, hlw1, hup0, hup1⟩ := up_facts hx0 hx1
      have hsz1 : nb * j + nb * i ≤ 100000 := by
        have h1 : nb * (j + i) ≤ 30 * (j + i) := Nat.mul_le_mul_right _ (by omega)
        have h2 : j + i ≤ 1000 := by omega
        rw [← Nat.mul_add]; omega
      k_steps
      refine Stop.intro ?_
      (k_dflt (refine' inn_ih ?jih ?jlt ?jX ?jB ?jF ?jN ?jT ?jhk ?jhC ?jmf ?jmA ?jmN ?jmI ?jmc ?jdA ?jdN ?jdI ?jdc ?jdq ?jnf ?jnA ?jnN ?jnI ?jnc ?jU ?jI ?jhlen ?jhk0 ?jhlo ?jhhi ?jhln ?jhx0 ?jhx1 ?jhd ?jhu ?_; (case jih => assumption); (case jhx0 => assumption); (case jhx1 => assumption); (case jhlen => omega); (case jlt => omega); (case jX => k_asm); (case jB => k_asm); (case jF => k_asm); (case jN => k_asm); (case jT => k_asm); (case jhk => first | exact rfl | assumption); (case jhC => k_asm); (case jmf => k_mem); (case jmA => k_mem); (case jmN => k_mem); (case jmI => k_mem); (case jmc => k_mem); (case jdA => assumption); (case jdN => assumption); (case jdI => assumption); (case jdc => assumption); (case jdq => assumption); (case jnf => assumption); (case jnA => assumption); (case jnN => assumption); (case jnI => assumption); (case jnc => assumption); (case jU => first | assumption | exact updF_again (by assumption)); (case jI => assumption); (case jhk0 => omega); (case jhlo => omega); (case jhhi => first | omega | (rw [setD_len (by rw [digs_len]; omega)]; omega)); (case jhln => first | omega | (rw [setD_len (by rw [digs_len]; omega)]; omega)); (case jhd => ktr_room); (case jhu => ktr_units)); intro vs9 cp9 h9 tk9 i9 F9 N9; (try dsimp only); (try k_fold))
      k_steps
      refine Stop.intro ?_
      (k_dflt (refine' inn_ih ?jih ?jlt ?jX ?jB ?jF ?jN ?jT ?jhk ?jhC ?jmf ?jmA ?jmN ?jmI ?jmc ?jdA ?jdN ?jdI ?jdc ?jdq ?jnf ?jnA ?jnN ?jnI ?jnc ?jU ?jI ?jhlen ?jhk0 ?jhlo ?jhhi ?jhln ?jhx0 ?jhx1 ?jhd ?jhu ?_; (case jih => assumption); (case jhx0 => assumption); (case jhx1 => assumption); (case jhlen => omega); (case jlt => omega); (case jX => k_asm); (case jB => k_asm); (case jF => k_asm); (case jN => k_asm); (case jT => k_asm); (case jhk => first | exact rfl | assumption); (case jhC => k_asm); (case jmf => k_mem); (case jmA => k_mem); (case jmN => k_mem); (case jmI => k_mem); (case jmc => k_mem); (case jdA => assumption); (case jdN => assumption); (case jdI => assumption); (case jdc => assumption); (case jdq => assumption); (case jnf => assumption); (case jnA => assumption); (case jnN => assumption); (case jnI => assumption); (case jnc => assumption); (case jU => first | assumption | exact updF_again (by assumption)); (case jI => assumption); (case jhk0 => omega); (case jhlo => omega); (case jhhi => first | omega | (rw [setD_len (by rw [digs_len]; omega)]; omega)); (case jhln => first | omega | (rw [setD_len (by rw [digs_len]; omega)]; omega)); (case jhd => ktr_room); (case jhu => ktr_units)); intro vs9 cp9 h9 tk9 i9 F9 N9; (try dsimp only); (try k_fold))
      k_steps
      refine ret2 _ _ _ _ ?_ (by assumption) (by assumption)
      rw [← node_eq (M := lo + (i : Int)) hlo rfl (by omega)]
      assumption
  · intro hInn
    k_dflt (refine' storeX_C ?yF ?yN ?yc ?yU ?yd ?_ ?ya ?yb; (case ya => rfl); (case yb => rfl); (case yF => k_asm); (case yN => k_asm); (case yc => rfl); (case yU => k_updF); (case yd => k_asm); k_whole)
    intro hJ oJ FJ NJ dJ
    (try dsimp only at NJ)
    have hlenJ := IntsAre.length ‹IntsAre _ (List.replicate k 0)›
    rw [List.length_replicate] at hlenJ
    by_cases hx00 : x = 0
    · obtain rfl : k = 0 := hk0.mpr hx00
      k_steps
      refine' hret _ _ _ _ _ ?e1 (by assumption) (cb_drop (by assumption) ?e2) ?e3
      case e2 => k_allIn
      case e1 => assumption
      case e3 => exact allLt_lt (And.right (And.right (And.right (And.right (by assumption)))))
    · have hkpos : 0 < k := by omega
      k_steps
      refine Stop.intro ?_
      (k_dflt (refine' inn_at ?jih ?jX ?jB ?jF ?jN ?jT ?jhk ?jhC ?jmf ?jmA ?jmN ?jmI ?jmc ?jdA ?jdN ?jdI ?jdc ?jdq ?jnf ?jnA ?jnN ?jnI ?jnc ?jU ?jI ?jhlen ?jhk0 ?jhlo ?jhhi ?jhln ?jhx0 ?jhx1 ?jhd ?jhu ?_; (case jih => assumption); (case jhx0 => assumption); (case jhx1 => assumption); (case jhlen => omega); (case jX => k_asm); (case jB => k_asm); (case jF => k_asm); (case jN => k_asm); (case jT => k_asm); (case jhk => first | exact rfl | assumption); (case jhC => k_asm); (case jmf => k_mem); (case jmA => k_mem); (case jmN => k_mem); (case jmI => k_mem); (case jmc => k_mem); (case jdA => assumption); (case jdN => assumption); (case jdI => assumption); (case jdc => assumption); (case jdq => assumption); (case jnf => k_ne); (case jnA => k_ne); (case jnN => k_ne); (case jnI => k_ne); (case jnc => k_ne); (case jU => k_updF); (case jI => assumption); (case jhk0 => omega); (case jhlo => omega); (case jhhi => first | (rw [List.length_replicate]; omega) | omega | (rw [setD_len (by rw [digs_len]; omega)]; omega)); (case jhln => first | (rw [List.length_replicate]; omega) | omega | (rw [setD_len (by rw [digs_len]; omega)]; omega)); (case jhd => ktr_room); (case jhu => ktr_units)); intro vs9 cp9 h9 tk9 i9 F9 N9; (try dsimp only); (try k_fold))
      k_steps
      refine' hret _ _ _ _ _ ?e1 (by assumption) (cb_drop (by assumption) ?e2) ?e3
      case e2 => k_allIn
      case e1 =>
        rw [← setD_all (k := k) (z := 0) (digs_len nb k x)]
        assumption
      case e3 => exact allLt_lt (And.right (And.right (And.right (And.right (by assumption)))))
end

def Bel (b : Nat) (ns : List Int) : Prop := ∀ y ∈ ns, 0 ≤ y ∧ y < 2 ^ b
def InnD (w : World) (f D cA cN cI c' : Addr) (fo : Obj) (q : Str) (N k : Nat) : Prop :=
  ∀ {loose : List Str} {mean : ExcName → Option Value} {mg mb : Str → Option Value} {dp un : Nat} {gd : Option (List Code)} {cn : Str} {cs : Scope} {a : Addr} {ccd : Value} {cl : List (Str × Addr)} {outer : List Env} {A₀ : Around} {base h₀ : Heap} {L : Addr} {m : Str → Option Value} {s : Shared} {Q E : Value → Shared → Prop} {news : List (Addr × Obj)}
   {vs : List Value} {ns : List Int} {cap : Nat} {lo hi : Int} {tl th tN t : Tok} {oA oN oI oc : Obj} {vc : Array Value},
   (Mine01.hd.heap_39 w.params).In h₀ → Below A₀ base outer h₀ → Fr h₀ L s.heap m → News h₀ L s.heap news → Top topProg loose mean mg mb h₀ → cs.kind = .function → CodeHd base 41 37 →
   (f, fo) ∈ news → (cA, oA) ∈ news → (cN, oN) ∈ news → (cI, oI) ∈ news → (c', oc) ∈ news → oA.data = .cell (some (.ref D)) → oN.data = .cell (some (.int (N : Int) tN)) → oI.data = .cell (some (.ref f)) →
   oc.data = .fields vc → vc[1]? = some (.str q t) → (D, listOf vs.toArray cap) ∈ news → IntsAre vs ns → Bel N ns → N ≤ 30 → hi - lo = (k : Int) → 0 < k → 0 ≤ lo → hi ≤ (ns.length : Int) → ns.length < 1000 → dp + 2 * k < recursionLimit → un + 16 * k < cLine →
   (∀ v t' h' tk', 0 ≤ v → v < 2 ^ (N * k) → Fr h₀ L h' m → News h₀ L h' news → Q (.int v t') { s with heap := h', toks := tk' }) →
   wpAny (model PySem.Challenge.rw_gy0003_01.row.prog w) (ktrTop dp un gd cn cs L a ccd cl outer) (call (.ref f) [.int lo tl, .int hi th]) Q E s
theorem dnn_ih {w : World} {f D cA cN cI c' : Addr} {fo : Obj} {q : Str} {N k j : Nat} (h : ∀ i, i < k → InnD w f D cA cN cI c' fo q N i) (hj : j < k) : InnD w f D cA cN cI c' fo q N j := h j hj
theorem dnn_at {w : World} {f D cA cN cI c' : Addr} {fo : Obj} {q : Str} {N j : Nat} (h : ∀ i, InnD w f D cA cN cI c' fo q N i) : InnD w f D cA cN cI c' fo q N j := h j
theorem dnn_use {w : World} {h₀ h : Heap} {L f D c' cI cA cN : Addr} {fo oc oI oA oN : Obj} {rest : List (Addr × Obj)} {q : Str} {t : Tok} {vc : Array Value} {P : Prop} (N : Nat) (D : Addr) (_ : News h₀ L h ((f, fo) :: (c', oc) :: (cI, oI) :: (cN, oN) :: (cA, oA) :: rest))
   (_ : vc[1]? = some (.str q t)) (hI : ∀ k, InnD w f D cA cN cI c' fo q N k) (h : (∀ k, InnD w f D cA cN cI c' fo q N k) → P) : P := h hI
theorem dnn_useB {w : World} {h₀ h : Heap} {L f D c' cI cA cN : Addr} {fo oI oA oN : Obj} {rest : List (Addr × Obj)} {q : Str} {t : Tok} {vc : Array Value} {P : Prop} (N : Nat) (D : Addr) (_ : News h₀ L h ((f, fo) :: (cI, oI) :: (cN, oN) :: (cA, oA) :: rest))
   (_ : vc[1]? = some (.str q t)) (hI : ∀ k, InnD w f D cA cN cI c' fo q N k) (h : (∀ k, InnD w f D cA cN cI c' fo q N k) → P) : P := h hI
theorem bel_at {b : Nat} {ns : List Int} (h : Bel b ns) {i : Nat} (hi : i < ns.length) : 0 ≤ ns.getD i 0 ∧ ns.getD i 0 < 2 ^ b := by
  rw [List.getD_eq_getElem?_getD, List.getElem?_eq_getElem hi]
  exact h _ (List.getElem_mem hi)
theorem glue {N i j : Nat} {u v : Int} (hu0 : 0 ≤ u) (hu : u < 2 ^ (N * j)) (hv0 : 0 ≤ v) (hv : v < 2 ^ (N * i)) : 0 ≤ u * 2 ^ (N * i) + v ∧ u * 2 ^ (N * i) + v < 2 ^ (N * (i + j)) := by
  have hp := p2_pos (N * i)
  have h1 : 0 ≤ u * 2 ^ (N * i) := Int.mul_nonneg hu0 (Int.le_of_lt hp)
  have h2 : (u + 1) * 2 ^ (N * i) ≤ 2 ^ (N * j) * 2 ^ (N * i) := Int.mul_le_mul_of_nonneg_right (by omega) (Int.le_of_lt hp)
  rw [Int.add_mul, Int.one_mul] at h2
  refine ⟨by omega, ?_⟩
  rw [Nat.mul_add, Int.pow_add, Int.mul_comm (2 ^ (N * i)) (2 ^ (N * j))]
  omega
theorem truthy_my {prog : Program} {w : World} {A : Around} {E : Value → Shared → Prop} {s : Shared} {h₀ : Heap} {L D : Addr} {news : List (Addr × Obj)} {vs : List Value} {c n : Nat} {Q : Bool → Shared → Prop} (N : News h₀ L s.heap news) (hm : (D, listOf vs.toArray c) ∈ news) (hs : vs.length = n) (hf : n < 2 ^ 62) (h : ∀ tk, Q (decide (0 < n)) { s with toks := tk }) :
    wpAny (model prog w) A (truthy (.ref D)) Q E s := by
  refine kgr_truthy N hm rfl rfl (by omega) ?_
  have e : decide (0 < n) = !vs.isEmpty := by
    cases vs with
    | nil => simp at hs; subst hs; rfl
    | cons a r => simp at hs; subst hs; simp
  rw [← e]; exact h _
section
local macro_rules | `(tactic| k_memK) => `(tactic| first | exact List.Mem.head _ | (refine List.Mem.tail _ ?_; k_memK) | assumption)
local macro_rules | `(tactic| k_mem) => `(tactic| first | exact List.Mem.head _ | (refine List.Mem.tail _ ?_; k_mem) | assumption)
local macro_rules | `(tactic| k_all) => `(tactic| first | assumption | (refine allLt_ne ?_; first | assumption | exact And.right (by assumption) | exact And.right (And.right (by assumption)) | exact And.right (And.right (And.right (by assumption))) | exact And.right (And.right (And.right (And.right (by assumption)))) | exact And.right (And.right (And.right (And.right (And.right (by assumption)))))) | exact lt_ne (by assumption) (by omega))
local macro_rules | `(tactic| k_updF) => `(tactic| first | assumption | (refine' UpdF.head ?a; (case a => k_all)) | (refine' UpdF.tail ?a ?b; (case a => k_ne); (case b => k_updF)))
local macro_rules | `(tactic| k_ownIn) => `(tactic| first | assumption | (refine List.Mem.tail _ ?_; k_ownIn))
local macro_rules | `(tactic| k_allIn) => `(tactic| first | (refine List.forall_mem_cons.mpr ⟨by k_memK, ?_⟩; k_allIn) | (intro p hp; k_ownIn))
local macro_rules | `(tactic| walk_at "ite") => `(tactic| (k_here; k_openite; first | (refine ite_pos (by (simp only [beq_iff_eq, bne_iff_ne, decide_eq_true_eq]; omega)) ?_) | (refine ite_neg (by (simp only [beq_iff_eq, bne_iff_ne, decide_eq_true_eq]; omega)) ?_)))
local macro_rules | `(tactic| walk_at "binaryOp RShift int int") => `(tactic| (k_here; (first | (with_reducible refine' rsh_my ?e ?_; (case e => exact Eq.refl (Nat.cast _))) | (with_reducible refine' mid_my ?e ?_; (case e => assumption))); intro t9 tk9))
local macro_rules | `(tactic| walk_at "binaryOp LShift int int") => `(tactic| (k_here; k_dflt (refine' lsh_my ?e ?a ?b ?c ?_; (case e => with_reducible rfl); (case a | b | c => assumption)); intro t9 tk9))
local macro_rules | `(tactic| walk_at "binaryOp Mult int int") => `(tactic| (k_here; k_dflt (refine' mulc_my ?e ?n ?_; (case e => assumption); (case n => omega)); intro t9 tk9))
local macro_rules | `(tactic| walk_at "subscriptTail") => `(tactic| (k_here; (with_reducible show wpAny _ _ (subscriptTail _ _ (Value.ref _) (Value.int _ _)) _ _ _); k_dflt (refine' ksa_sub ?k1 ?k2 ?k3 ?k4 ?k5 ?k6 ?_ ?k7; (case k1 => k_asm); (case k2 => k_mem); (case k3 => assumption); (case k4 | k5 | k6 => omega); (case k7 => with_unfolding_all rfl)); intro t9))
local macro_rules | `(tactic| walk_at "truthy ref") => `(tactic| (k_here; k_dflt (refine' truthy_my ?N ?m ?s ?f ?_; (case N => k_asm); (case m => k_mem); (case s => assumption); (case f => omega)); intro tk9))
local macro_rules | `(tactic| walk_at "call builtin:len") => `(tactic| (k_here; k_dflt (refine' len_my ?N ?m ?s ?f ?_; (case N => k_asm); (case m => k_mem); (case s => assumption); (case f => omega))))
local macro_rules | `(tactic| walk_at "call ref") => `(tactic| (k_here; refine Stop.out ?_))
local macro_rules | `(tactic| walk_at "exec FunctionDef") => `(tactic| (k_here; refine Stop.out ?_))
set_option maxRecDepth 100000 in
set_option maxHeartbeats 8000000 in
theorem d2_f {w : World} {loose : List Str} {mean : ExcName → Option Value} {mg mb : Str → Option Value} {dp un : Nat} {gd : Option (List Code)} {cn : Str} {cs : Scope} {a : Addr} {ccd : Value} {cl : List (Str × Addr)} {outer : List Env} {A₀ : Around} {base h₀ : Heap} {L : Addr} {m : Str → Option Value} {s : Shared} {Q E : Value → Shared → Prop} {news : List (Addr × Obj)} {D : Addr} {vs : List Value} {ns : List Int} {cap : Nat} {n : Int} {tn : Tok} {nb : Nat} :
   (Mine01.hd.heap_39 w.params).In h₀ → Below A₀ base outer h₀ → Fr h₀ L s.heap m → News h₀ L s.heap ((37, tabObj #[]) :: news) → Top topProg loose mean mg mb h₀ → cs.kind = .function →
   CodeHd base 41 37 → (∀ p ∈ news, p.1 ≠ 37) → (D, listOf vs.toArray cap) ∈ news → IntsAre vs ns → Bel nb ns → ns.length < 100 → n = (nb : Int) → 1 ≤ n → n ≤ 30 → dp + 300 < recursionLimit → un + 3000 < cLine →
   (∀ v c' oc vc t u h' tk', 0 ≤ v → Fr h₀ L h' m → News h₀ L h' ((37, tabObj #[rawInt 47, rawInt 4, .ref c']) :: (c', oc) :: news) → (∀ p ∈ news, p.1 < c') → @LT.lt Nat _ 37 c' → oc.data = .fields vc → vc[1]? = some (.str (Str.ofString "_digits2int.<locals>.inner") t) → Q (.int v u) { s with heap := h', toks := tk' }) →
   wpAny (model PySem.Challenge.rw_gy0003_01.row.prog w) (ktrTop dp un gd cn cs L a ccd cl outer) (call (.ref 42) [.ref D, .int n tn]) Q E s := by
  k_fill
  intro X B F N T hk hC h30 hD hi hbel hln hnN hn hn2 hd hu hret
  subst hnN
  have hM := kstMark
  have hvl := hi.length
  refine wpAny_call ?_
  k_dflt (refine' code_defC ?k1 ?k2 ?k3 ?k4 ?k5 ?kA ?kF ?kK ?k6 ?k7 ?k8 ?k9 ?kB ?kD ?_ ?c2 ?c3 ?c4; (case kA => exact rfl); (case kF => exact rfl); (case kK => assumption); (case k1 => k_asm); (case k2 => k_asm); (case k3 => k_asm); (case k4 => k_asm); (case k5 => k_asm); (case k6 => k_is); (case k7 => k_is); (case k8 => ktr_room); (case k9 => first | exact BindsTo.of_eq rfl | exact kp_binds (by k_in) (fun _ => rfl)); (case kB => exact rfl); (case kD => decide +kernel); (case c2 => exact rfl); (case c3 => exact rfl); (case c4 => exact rfl); k_whole; intro g' L' h' tk' cells' FG' F' N' Y' B' X' T' l1; k_cells Y'; (try simp only [List.cons_append, List.nil_append] at N'); (try dsimp only); (try k_lift B'); (try k_fold))
  have l30 : @LT.lt Nat _ 37 L' := l1 _ (.head _)
  have l1n : ∀ p ∈ news, p.1 < L' := fun p hp => l1 p (.tail _ hp)
  have lD : @LT.lt Nat _ D L' := l1n _ hD
  k_steps
  all_goals (refine Stop.intro ?_)
  all_goals k_dflt (refine' nestDef_K ?d0 ?k0 ?a0 ?_; (case d0 => exact rfl); (case k0 => exact rfl); (case a0 => exact rfl))
  all_goals k_dflt (refine' nest_K ?xF ?xN ?xT ?xC ?xcd ?xU ?xt ?xn ?xcl ?_; (case xF => k_asm); (case xN => k_asm); (case xT => k_asm); (case xcd => exact rfl); (case xC => kn_code); (case xU => k_updF); (case xt => kn_triples); (case xn => kn_among); (case xcl => exact rfl); k_whole)
  intro fI cI ocI vcI tI ctI dcI hI tkI FI NI dI1 dI2 lI1 lI2
  (try dsimp only at NI)
  k_lt lI1
  k_lt2 lI2
  refine dnn_use (w := w) (D := D) nb D NI dI2 ?_ ?_
  · intro k
    induction k using Nat.strongRecOn with
    | ind k IH =>
    unfold InnD
    intro loose2 mean2 mg2 mb2 dp2 un2 gd2 cn2 cs2 a2 ccd2 cl2 outer2 A2 base2 h2 L2 m2 s2 Q2 E2 news2 vs2 ns2 cap2 lo hi tl2 th2 tN2 t2 oA2 oN2 oI2 oc2 vc2 X2 B2 F2 N2 T2 hk2' hC2 mf mA mN mI mc dA dN dI dc dq mD I2 hb2 hN2 hlen hk0 hlo hhi hlen2 hd2 hu2 ret2
    refine wpAny_call ?_
    k_dflt (refine' code_nest ?k1 ?k2 ?k3 ?k4 ?k5 ?kA ?kF ?kK ?k6 ?k7 ?k8 ?k9 ?kB ?_ ?c2 ?c3 ?c4 ?c5; (case kA => exact rfl); (case kF => exact rfl); (case kK => assumption); (case k1 => exact B2); (case k2 => exact F2); (case k3 => exact X2); (case k4 => exact N2); (case k5 => exact T2); (case k6 => exact mf); (case k7 => exact codeRec_news N2 mc dc dq); (case k8 => ktr_room); (case k9 => exact BindsTo.of_eq rfl); (case c5 => decide); (case kB => exact locs rfl); (case c2 => exact rfl); (case c3 => exact rfl); (case c4 => exact rfl); k_whole; intro g' L' h' FG' F' N' B' X' T'; (try dsimp only); (try k_lift B'); (try k_fold))
    by_cases hone : lo + 1 = hi
    · obtain rfl : k = 1 := by omega
      have hb9 := bel_at hb2 (i := lo.toNat) (by omega)
      k_steps
      exact ret2 _ _ _ _ hb9.1 (by rw [Nat.mul_one]; exact hb9.2) (by assumption) (by assumption)
    · obtain ⟨i, j, hij, hi0, hj0, hmid⟩ : ∃ i j : Nat, k = i + j ∧ 0 < i ∧ 0 < j ∧ (lo + hi).fdiv 2 = lo + (i : Int) := by
        refine ⟨k / 2, k - k / 2, by omega, by omega, by omega, ?_⟩
        rw [Int.fdiv_eq_ediv_of_nonneg _ (by decide)]; omega
      subst hij
      have hsh : lo + (i : Int) - lo = (i : Int) := by omega
      have hsj : hi - (lo + (i : Int)) = (j : Int) := by omega
      have hsz1 : nb * j + nb * i ≤ 100000 := by
        have h1 : nb * (j + i) ≤ 30 * (j + i) := Nat.mul_le_mul_right _ (by omega)
        have h2 : j + i ≤ 1000 := by omega
        rw [← Nat.mul_add]; omega
      k_steps
      refine Stop.intro ?_
      (k_dflt (refine' dnn_ih ?jih ?jlt ?jX ?jB ?jF ?jN ?jT ?jhk ?jhC ?jmf ?jmA ?jmN ?jmI ?jmc ?jdA ?jdN ?jdI ?jdc ?jdq ?jmD ?jI ?jhb ?jhN ?jhlen ?jhk0 ?jhlo ?jhhi ?jhln ?jhd ?jhu ?_; (case jih => assumption); (case jhlen => first | assumption); (case jlt => omega); (case jX => k_asm); (case jB => k_asm); (case jF => k_asm); (case jN => k_asm); (case jT => k_asm); (case jhk => first | exact rfl | assumption); (case jhC => k_asm); (case jmf => k_mem); (case jmA => k_mem); (case jmN => k_mem); (case jmI => k_mem); (case jmc => k_mem); (case jdA => assumption); (case jdN => assumption); (case jdI => assumption); (case jdc => assumption); (case jdq => assumption); (case jmD => k_mem); (case jI => assumption); (case jhb => assumption); (case jhN => omega); (case jhk0 => omega); (case jhlo => omega); (case jhhi => omega); (case jhln => omega); (case jhd => ktr_room); (case jhu => ktr_units)); intro v9 t9 h9 tk9 va9 vb9 F9 N9; (try dsimp only); (try k_fold))
      k_steps
      refine Stop.intro ?_
      (k_dflt (refine' dnn_ih ?jih ?jlt ?jX ?jB ?jF ?jN ?jT ?jhk ?jhC ?jmf ?jmA ?jmN ?jmI ?jmc ?jdA ?jdN ?jdI ?jdc ?jdq ?jmD ?jI ?jhb ?jhN ?jhlen ?jhk0 ?jhlo ?jhhi ?jhln ?jhd ?jhu ?_; (case jih => assumption); (case jhlen => first | assumption); (case jlt => omega); (case jX => k_asm); (case jB => k_asm); (case jF => k_asm); (case jN => k_asm); (case jT => k_asm); (case jhk => first | exact rfl | assumption); (case jhC => k_asm); (case jmf => k_mem); (case jmA => k_mem); (case jmN => k_mem); (case jmI => k_mem); (case jmc => k_mem); (case jdA => assumption); (case jdN => assumption); (case jdI => assumption); (case jdc => assumption); (case jdq => assumption); (case jmD => k_mem); (case jI => assumption); (case jhb => assumption); (case jhN => omega); (case jhk0 => omega); (case jhlo => omega); (case jhhi => omega); (case jhln => omega); (case jhd => ktr_room); (case jhu => ktr_units)); intro v9 t9 h9 tk9 va9 vb9 F9 N9; (try dsimp only); (try k_fold))
      k_steps
      refine ret2 _ _ _ _ ?_ ?_ (by assumption) (by assumption)
      · exact (glue (N := nb) (i := i) (j := j) (by assumption) (by assumption) (by assumption) (by assumption)).1
      · exact (glue (N := nb) (i := i) (j := j) (by assumption) (by assumption) (by assumption) (by assumption)).2
  · intro hInn
    k_dflt (refine' storeX_C ?yF ?yN ?yc ?yU ?yd ?_ ?ya ?yb; (case ya => rfl); (case yb => rfl); (case yF => k_asm); (case yN => k_asm); (case yc => rfl); (case yU => k_updF); (case yd => k_asm); k_whole)
    intro hJ oJ FJ NJ dJ
    (try dsimp only at NJ)
    k_steps
    all_goals (try (refine Stop.intro ?_; k_dflt (refine' dnn_at ?jih ?jX ?jB ?jF ?jN ?jT ?jhk ?jhC ?jmf ?jmA ?jmN ?jmI ?jmc ?jdA ?jdN ?jdI ?jdc ?jdq ?jmD ?jI ?jhb ?jhN ?jhlen ?jhk0 ?jhlo ?jhhi ?jhln ?jhd ?jhu ?_; (case jih => assumption); (case jhlen => first | exact Int.sub_zero _); (case jX => k_asm); (case jB => k_asm); (case jF => k_asm); (case jN => k_asm); (case jT => k_asm); (case jhk => first | exact rfl | assumption); (case jhC => k_asm); (case jmf => k_mem); (case jmA => k_mem); (case jmN => k_mem); (case jmI => k_mem); (case jmc => k_mem); (case jdA => assumption); (case jdN => assumption); (case jdI => assumption); (case jdc => assumption); (case jdq => assumption); (case jmD => k_mem); (case jI => assumption); (case jhb => assumption); (case jhN => omega); (case jhk0 => omega); (case jhlo => omega); (case jhhi => omega); (case jhln => omega); (case jhd => ktr_room); (case jhu => ktr_units)); intro v9 t9 h9 tk9 va9 vb9 F9 N9; (try dsimp only); (try k_fold)))
    all_goals (try k_steps)
    all_goals (
      refine' hret _ cI ocI _ tI _ _ _ ?e0 (by assumption) (cb_drop (by assumption) ?e2) ?e3 ?e4 dI1 dI2
      case e2 => k_allIn
      case e0 => first | assumption | decide
      case e3 => exact allLt_lt (And.right (And.right (And.right (And.right lI1))))
      case e4 => omega)
set_option maxRecDepth 100000 in
set_option maxHeartbeats 8000000 in
theorem d2_b {w : World} {loose : List Str} {mean : ExcName → Option Value} {mg mb : Str → Option Value} {dp un : Nat} {gd : Option (List Code)} {cn : Str} {cs : Scope} {a : Addr} {ccd : Value} {cl : List (Str × Addr)} {outer : List Env} {A₀ : Around} {base h₀ : Heap} {L : Addr} {m : Str → Option Value} {s : Shared} {Q E : Value → Shared → Prop} {news : List (Addr × Obj)} {D : Addr} {vs : List Value} {ns : List Int} {cap : Nat} {n : Int} {tn : Tok} {nb : Nat} {c' : Addr} {oc : Obj} {vc : Array Value} {tq : Tok} :
   (Mine01.hd.heap_39 w.params).In h₀ → Below A₀ base outer h₀ → Fr h₀ L s.heap m → News h₀ L s.heap news → Top topProg loose mean mg mb h₀ → cs.kind = .function →
   CodeHd base 41 37 → (37, tabObj #[rawInt 47, rawInt 4, .ref c']) ∈ news → (c', oc) ∈ news → oc.data = .fields vc → vc[1]? = some (.str (Str.ofString "_digits2int.<locals>.inner") tq) → (D, listOf vs.toArray cap) ∈ news → IntsAre vs ns → Bel nb ns → ns.length < 100 → n = (nb : Int) → 1 ≤ n → n ≤ 30 → dp + 300 < recursionLimit → un + 3000 < cLine →
   (∀ v u h' tk', 0 ≤ v → Fr h₀ L h' m → News h₀ L h' news → Q (.int v u) { s with heap := h', toks := tk' }) →
   wpAny (model PySem.Challenge.rw_gy0003_01.row.prog w) (ktrTop dp un gd cn cs L a ccd cl outer) (call (.ref 42) [.ref D, .int n tn]) Q E s := by
  k_fill
  intro X B F N T hk hC h30 hcm hcd hcq hD hi hbel hln hnN hn hn2 hd hu hret
  subst hnN
  have hM := kstMark
  have hvl := hi.length
  refine wpAny_call ?_
  k_dflt (refine' code_defC ?k1 ?k2 ?k3 ?k4 ?k5 ?kA ?kF ?kK ?k6 ?k7 ?k8 ?k9 ?kB ?kD ?_ ?c2 ?c3 ?c4; (case kA => exact rfl); (case kF => exact rfl); (case kK => assumption); (case k1 => k_asm); (case k2 => k_asm); (case k3 => k_asm); (case k4 => k_asm); (case k5 => k_asm); (case k6 => k_is); (case k7 => k_is); (case k8 => ktr_room); (case k9 => first | exact BindsTo.of_eq rfl | exact kp_binds (by k_in) (fun _ => rfl)); (case kB => exact rfl); (case kD => decide +kernel); (case c2 => exact rfl); (case c3 => exact rfl); (case c4 => exact rfl); k_whole; intro g' L' h' tk' cells' FG' F' N' Y' B' X' T' l1; k_cells Y'; (try simp only [List.cons_append, List.nil_append] at N'); (try dsimp only); (try k_lift B'); (try k_fold))
  have l30 : @LT.lt Nat _ 37 L' := l1 _ h30
  have lc : @LT.lt Nat _ c' L' := l1 _ hcm
  have lD : @LT.lt Nat _ D L' := l1 _ hD
  k_steps
  all_goals (refine Stop.intro ?_)
  all_goals k_dflt (refine' nestDef_K ?d0 ?k0 ?a0 ?_; (case d0 => exact rfl); (case k0 => exact rfl); (case a0 => exact rfl))
  all_goals k_dflt (refine' nestHit_K ?xF ?xN ?xT ?xC ?xcd ?xm ?xt ?xn ?xcl ?_; (case xF => k_asm); (case xN => k_asm); (case xT => k_asm); (case xcd => exact rfl); (case xC => kn_code); (case xm => k_mem); (case xt => kn_triples); (case xn => kn_hit); (case xcl => exact rfl); k_whole)
  intro fI ctI dcI hI tkI FI NI lI1
  (try dsimp only at NI)
  k_lt lI1
  refine dnn_useB (w := w) (D := D) nb D NI (c' := c') hcq ?_ ?_
  · intro k
    induction k using Nat.strongRecOn with
    | ind k IH =>
    unfold InnD
    intro loose2 mean2 mg2 mb2 dp2 un2 gd2 cn2 cs2 a2 ccd2 cl2 outer2 A2 base2 h2 L2 m2 s2 Q2 E2 news2 vs2 ns2 cap2 lo hi tl2 th2 tN2 t2 oA2 oN2 oI2 oc2 vc2 X2 B2 F2 N2 T2 hk2' hC2 mf mA mN mI mc dA dN dI dc dq mD I2 hb2 hN2 hlen hk0 hlo hhi hlen2 hd2 hu2 ret2
    refine wpAny_call ?_
    k_dflt (refine' code_nest ?k1 ?k2 ?k3 ?k4 ?k5 ?kA ?kF ?kK ?k6 ?k7 ?k8 ?k9 ?kB ?_ ?c2 ?c3 ?c4 ?c5; (case kA => exact rfl); (case kF => exact rfl); (case kK => assumption); (case k1 => exact B2); (case k2 => exact F2); (case k3 => exact X2); (case k4 => exact N2); (case k5 => exact T2); (case k6 => exact mf); (case k7 => exact codeRec_news N2 mc dc dq); (case k8 => ktr_room); (case k9 => exact BindsTo.of_eq rfl); (case c5 => decide); (case kB => exact locs rfl); (case c2 => exact rfl); (case c3 => exact rfl); (case c4 => exact rfl); k_whole; intro g' L' h' FG' F' N' B' X' T'; (try dsimp only); (try k_lift B'); (try k_fold))
    by_cases hone : lo + 1 = hi
    · obtain rfl : k = 1 := by omega
      have hb9 := bel_at hb2 (i := lo.toNat) (by omega)
      k_steps
      exact ret2 _ _ _ _ hb9.1 (by rw [Nat.mul_one]; exact hb9.2) (by assumption) (by assumption)
    · obtain ⟨i, j, hij, hi0, hj0, hmid⟩ : ∃ i j : Nat, k = i + j ∧ 0 < i ∧ 0 < j ∧ (lo + hi).fdiv 2 = lo + (i : Int) := by
        refine ⟨k / 2, k - k / 2, by omega, by omega, by omega, ?_⟩
        rw [Int.fdiv_eq_ediv_of_nonneg _ (by decide)]; omega
      subst hij
      have hsh : lo + (i : Int) - lo = (i : Int) := by omega
      have hsj : hi - (lo + (i : Int)) = (j : Int) := by omega
      have hsz1 : nb * j + nb * i ≤ 100000 := by
        have h1 : nb * (j + i) ≤ 30 * (j + i) := Nat.mul_le_mul_right _ (by omega)
        have h2 : j + i ≤ 1000 := by omega
        rw [← Nat.mul_add]; omega
      k_steps
      refine Stop.intro ?_
      (k_dflt (refine' dnn_ih ?jih ?jlt ?jX ?jB ?jF ?jN ?jT ?jhk ?jhC ?jmf ?jmA ?jmN ?jmI ?jmc ?jdA ?jdN ?jdI ?jdc ?jdq ?jmD ?jI ?jhb ?jhN ?jhlen ?jhk0 ?jhlo ?jhhi ?jhln ?jhd ?jhu ?_; (case jih => assumption); (case jhlen => first | assumption); (case jlt => omega); (case jX => k_asm); (case jB => k_asm); (case jF => k_asm); (case jN => k_asm); (case jT => k_asm); (case jhk => first | exact rfl | assumption); (case jhC => k_asm); (case jmf => k_mem); (case jmA => k_mem); (case jmN => k_mem); (case jmI => k_mem); (case jmc => k_mem); (case jdA => assumption); (case jdN => assumption); (case jdI => assumption); (case jdc => assumption); (case jdq => assumption); (case jmD => k_mem); (case jI => assumption); (case jhb => assumption); (case jhN => omega); (case jhk0 => omega); (case jhlo => omega); (case jhhi => omega); (case jhln => omega); (case jhd => ktr_room); (case jhu => ktr_units)); intro v9 t9 h9 tk9 va9 vb9 F9 N9; (try dsimp only); (try k_fold))
      k_steps
      refine Stop.intro ?_
      (k_dflt (refine' dnn_ih ?jih ?jlt ?jX ?jB ?jF ?jN ?jT ?jhk ?jhC ?jmf ?jmA ?jmN ?jmI ?jmc ?jdA ?jdN ?jdI ?jdc ?jdq ?jmD ?jI ?jhb ?jhN ?jhlen ?jhk0 ?jhlo ?jhhi ?jhln ?jhd ?jhu ?_; (case jih => assumption); (case jhlen => first | assumption); (case jlt => omega); (case jX => k_asm); (case jB => k_asm); (case jF => k_asm); (case jN => k_asm); (case jT => k_asm); (case jhk => first | exact rfl | assumption); (case jhC => k_asm); (case jmf => k_mem); (case jmA => k_mem); (case jmN => k_mem); (case jmI => k_mem); (case jmc => k_mem); (case jdA => assumption); (case jdN => assumption); (case jdI => assumption); (case jdc => assumption); (case jdq => assumption); (case jmD => k_mem); (case jI => assumption); (case jhb => assumption); (case jhN => omega); (case jhk0 => omega); (case jhlo => omega); (case jhhi => omega); (case jhln => omega); (case jhd => ktr_room); (case jhu => ktr_units)); intro v9 t9 h9 tk9 va9 vb9 F9 N9; (try dsimp only); (try k_fold))
      k_steps
      refine ret2 _ _ _ _ ?_ ?_ (by assumption) (by assumption)
      · exact (glue (N := nb) (i := i) (j := j) (by assumption) (by assumption) (by assumption) (by assumption)).1
      · exact (glue (N := nb) (i := i) (j := j) (by assumption) (by assumption) (by assumption) (by assumption)).2
  · intro hInn
    k_dflt (refine' storeX_C ?yF ?yN ?yc ?yU ?yd ?_ ?ya ?yb; (case ya => rfl); (case yb => rfl); (case yF => k_asm); (case yN => k_asm); (case yc => rfl); (case yU => k_updF); (case yd => k_asm); k_whole)
    intro hJ oJ FJ NJ dJ
    (try dsimp only at NJ)
    k_steps
    all_goals (try (refine Stop.intro ?_; k_dflt (refine' dnn_at ?jih ?jX ?jB ?jF ?jN ?jT ?jhk ?jhC ?jmf ?jmA ?jmN ?jmI ?jmc ?jdA ?jdN ?jdI ?jdc ?jdq ?jmD ?jI ?jhb ?jhN ?jhlen ?jhk0 ?jhlo ?jhhi ?jhln ?jhd ?jhu ?_; (case jih => assumption); (case jhlen => first | exact Int.sub_zero _); (case jX => k_asm); (case jB => k_asm); (case jF => k_asm); (case jN => k_asm); (case jT => k_asm); (case jhk => first | exact rfl | assumption); (case jhC => k_asm); (case jmf => k_mem); (case jmA => k_mem); (case jmN => k_mem); (case jmI => k_mem); (case jmc => k_mem); (case jdA => assumption); (case jdN => assumption); (case jdI => assumption); (case jdc => assumption); (case jdq => assumption); (case jmD => k_mem); (case jI => assumption); (case jhb => assumption); (case jhN => omega); (case jhk0 => omega); (case jhlo => omega); (case jhhi => omega); (case jhln => omega); (case jhd => ktr_room); (case jhu => ktr_units)); intro v9 t9 h9 tk9 va9 vb9 F9 N9; (try dsimp only); (try k_fold)))
    all_goals (try k_steps)
    all_goals (
      refine' hret _ _ _ _ ?e0 (by assumption) (cb_drop (by assumption) ?e2)
      case e2 => k_allIn
      case e0 => first | assumption | decide)
end

/-! loops whose ledger may grow: over the library's own turn-by-turn rules, by induction -/
def LpJ {σ : Type} (Led : σ → List (Addr × Obj)) (ps : σ → List (Str × Value)) (x : Str) (stored : List Str) (m₀ : Str → Option Value) (P : σ → Prop) (m : Str → Option Value) (nx : List (Addr × Obj)) : Prop :=
  ∃ c : σ, nx = Led c ∧ P c ∧ (∀ p ∈ ps c, m p.1 = some p.2) ∧ (∀ z, z ≠ x → (∀ p ∈ ps c, z ≠ p.1) → stored.contains z = false → m z = m₀ z)
def LpPost (h₀ : Heap) (L : Addr) (s₁ : Shared) (I : Addr) (it : Obj) (J : (Str → Option Value) → List (Addr × Obj) → Prop) (Q : Flow → Shared → Prop) (f : Flow) (s₂ : Shared) : Prop := UnrPost h₀ L s₁ I it J Q f s₂
section
variable {prog : Program} {w : World} {A : Around} {E : Value → Shared → Prop} {s : Shared} {env : Env} {h₀ : Heap} {x : Str} {body : List Stmt} {Q : Flow → Shared → Prop}
theorem LpPost.next {σ : Type} {Led : σ → List (Addr × Obj)} {ps : σ → List (Str × Value)} {stored : List Str} {m₀ m' : Str → Option Value} {P : σ → Prop} {L I : Addr} {it : Obj} {s₁ : Shared} {h' : Heap} {tk : Nat} {all : List (Addr × Obj)} (c : σ)
    (F : Fr h₀ L h' m') (N : News h₀ L h' all) (hP : P c) (sub : ∀ p ∈ (I, it) :: Led c, p ∈ all) (off : ∀ p ∈ Led c, p.1 ≠ I) (hk : ∀ p ∈ ps c, m' p.1 = some p.2)
    (hs : ∀ z, z ≠ x → (∀ p ∈ ps c, z ≠ p.1) → stored.contains z = false → m' z = m₀ z) : LpPost h₀ L s₁ I it (LpJ Led ps x stored m₀ P) Q .next { s₁ with heap := h', toks := tk } :=
  UnrEnd.intro F N (Led c) sub off ⟨c, rfl, hP, hk, hs⟩
theorem LpPost.nextL {σ : Type} {Led : σ → List (Addr × Obj)} {ps : σ → List (Str × Value)} {stored : List Str} {m₀ m' : Str → Option Value} {P : σ → Prop} {L I : Addr} {it : Obj} {lp : Addr × Obj} {s₁ : Shared} {h' : Heap} {tk : Nat} {all : List (Addr × Obj)} (c : σ)
    (F : Fr h₀ L h' m') (N : News h₀ L h' all) (hP : P c) (sub : ∀ p ∈ (I, it) :: Led c, p ∈ all) (off : ∀ p ∈ Led c, p.1 ≠ I) (hk : ∀ p ∈ ps c, m' p.1 = some p.2)
    (hs : ∀ z, z ≠ x → (∀ p ∈ ps c, z ≠ p.1) → stored.contains z = false → m' z = m₀ z) (hl : lp ∈ Led c) : LpPost h₀ L s₁ I it (fun m nx => lp ∈ nx ∧ LpJ Led ps x stored m₀ P m nx) Q .next { s₁ with heap := h', toks := tk } :=
  UnrEnd.intro F N (Led c) sub off ⟨hl, c, rfl, hP, hk, hs⟩

theorem lp_rangeRest {σ : Type} {I : Addr} {a₀ : Int} {n : Nat} {m₀ : Str → Option Value} (Led : σ → List (Addr × Obj)) (ps : σ → List (Str × Value)) (stored : List Str) (P : Nat → σ → Prop)
    (turn : ∀ (c : σ) it i t (u : Str → Option Value) h tk, i < n → P i c → (∀ p ∈ Led c, p.1 ≠ I) →
      Fr h₀ env.locals h (fun y => if y = x then some (.int (a₀ + (i : Int)) t) else kstB (fun z => if stored.contains z then u z else m₀ z) (ps c) y) → News h₀ env.locals h ((I, it) :: Led c) →
      wpAny (model prog w) A (execs body env) (LpPost h₀ env.locals { s with heap := h, toks := tk } I it (LpJ Led ps x stored m₀ (P (i + 1))) Q) E { s with heap := h, toks := tk })
    (done : ∀ (c : σ) (u : Str → Option Value) h tk, P n c → Fr h₀ env.locals h (fun y => if y = x then u y else kstB (fun z => if stored.contains z then u z else m₀ z) (ps c) y) → News h₀ env.locals h (Led c) → Q .next { s with heap := h, toks := tk }) :
    ∀ (k i : Nat) (m : Str → Option Value) (nx : List (Addr × Obj)), i + k = n → (∀ p ∈ nx, p.1 ≠ I) → LpJ Led ps x stored m₀ (P i) m nx → RangeRest prog w A E h₀ env x body Q s I a₀ n k i m nx := by
  intro k
  induction k with
  | zero =>
    rintro i m nx hi _ ⟨c, rfl, hP, h1, h2⟩
    obtain rfl : i = n := by omega
    exact RangeRest.zero fun h tk F N => done c m h tk hP (kst_frOut h1 h2 F) N
  | succ k ih =>
    rintro i m nx hi hoff ⟨c, rfl, hP, h1, h2⟩
    refine RangeRest.succ fun t h tk F N => wpAny_mono (turn c _ i t m h tk (by omega) hP hoff (kst_fr h1 h2 F) N) (fun f s₂ p => ?_) fun _ _ e => e
    have fin : UnrEnd h₀ env.locals { s with heap := h, toks := tk } I (itR (a₀ + ((i + 1 : Nat) : Int)) ((n : Int) - ((i + 1 : Nat) : Int))) (LpJ Led ps x stored m₀ (P (i + 1))) s₂ →
        UnrEnd h₀ env.locals { s with heap := h, toks := tk } I (itR (a₀ + ((i + 1 : Nat) : Int)) ((n : Int) - ((i + 1 : Nat) : Int))) (RangeRest prog w A E h₀ env x body Q s I a₀ n k (i + 1)) s₂ := by
      rintro ⟨h', tk', m', nx', e, F', N', ho, r⟩
      exact ⟨h', tk', m', nx', e, F', N', ho, ih (i + 1) m' nx' (by omega) ho r⟩
    cases f with
    | ret v => exact p
    | brk => exact p
    | next => exact fin p
    | cont => exact fin p
theorem lp_range {σ : Type} {r : Addr} {a₀ b₀ : Int} {t₀ u₀ v₀ : Tok} {n : Nat} {m₀ : Str → Option Value} (Led : σ → List (Addr × Obj)) (ps : σ → List (Str × Value)) (stored : List Str) (P : Nat → σ → Prop) (c₀ : σ)
    (hh : A.handled = none) (hr : IsRange s.heap r a₀ b₀ 1 t₀ u₀ v₀) (hsmall : Builtin.Range.small a₀ b₀ 1 = true) (hn : Builtin.Range.rangeSize a₀ b₀ 1 = (n : Int)) (F : Fr h₀ env.locals s.heap m₀) (N : News h₀ env.locals s.heap (Led c₀)) (hk : ∀ p ∈ ps c₀, m₀ p.1 = some p.2) (hp : P 0 c₀)
    (turn : ∀ (c : σ) I it i t (u : Str → Option Value) h tk, i < n → P i c → (∀ p ∈ Led c, p.1 ≠ I) →
      Fr h₀ env.locals h (fun y => if y = x then some (.int (a₀ + (i : Int)) t) else kstB (fun z => if stored.contains z then u z else m₀ z) (ps c) y) → News h₀ env.locals h ((I, it) :: Led c) →
      wpAny (model prog w) A (execs body env) (LpPost h₀ env.locals { s with heap := h, toks := tk } I it (LpJ Led ps x stored m₀ (P (i + 1))) Q) E { s with heap := h, toks := tk })
    (done : ∀ (c : σ) (u : Str → Option Value) h tk, P n c → Fr h₀ env.locals h (fun y => if y = x then u y else kstB (fun z => if stored.contains z then u z else m₀ z) (ps c) y) → News h₀ env.locals h (Led c) → Q .next { s with heap := h, toks := tk }) :
    wpAny (model prog w) A (pyIter (.ref r)) (fun it s₂ => LoopAtV prog w A h₀ env x body Q E it s₂) E s :=
  iter_rangeUnr hh hr hsmall hn F N fun I hI => lp_rangeRest Led ps stored P (fun c it => turn c I it) done n 0 m₀ (Led c₀) (by omega) (fun p hp => Nat.ne_of_lt (hI p hp)) ⟨c₀, rfl, hp, hk, fun _ _ _ _ => rfl⟩

theorem lp_listRest {σ : Type} {I : Addr} {lp : Addr × Obj} {vs : List Value} {ns : List Int} {m₀ : Str → Option Value} (Led : σ → List (Addr × Obj)) (ps : σ → List (Str × Value)) (stored : List Str) (P : Nat → σ → Prop) (hi : IntsAre vs ns)
    (turn : ∀ (c : σ) it i n t (u : Str → Option Value) h tk, ns[i]? = some n → P i c → lp ∈ Led c → (∀ p ∈ Led c, p.1 ≠ I) →
      Fr h₀ env.locals h (fun y => if y = x then some (.int n t) else kstB (fun z => if stored.contains z then u z else m₀ z) (ps c) y) → News h₀ env.locals h ((I, it) :: Led c) →
      wpAny (model prog w) A (execs body env) (LpPost h₀ env.locals { s with heap := h, toks := tk } I it (fun m nx => lp ∈ nx ∧ LpJ Led ps x stored m₀ (P (i + 1)) m nx) Q) E { s with heap := h, toks := tk })
    (done : ∀ (c : σ) (u : Str → Option Value) h tk, P ns.length c → Fr h₀ env.locals h (fun y => if y = x then u y else kstB (fun z => if stored.contains z then u z else m₀ z) (ps c) y) → News h₀ env.locals h (Led c) → Q .next { s with heap := h, toks := tk }) :
    ∀ (r : List Value) (i : Nat) (m : Str → Option Value) (nx : List (Addr × Obj)), r = vs.drop i → i ≤ vs.length → lp ∈ nx → (∀ p ∈ nx, p.1 ≠ I) → LpJ Led ps x stored m₀ (P i) m nx → ListRest prog w A E h₀ env x body Q s I lp r m nx := by
  intro r
  induction r with
  | nil =>
    rintro i m nx hr hi' _ _ ⟨c, rfl, hP, h1, h2⟩
    have hlen : vs.length ≤ i := by
      have := congrArg List.length hr
      rw [List.length_drop] at this
      simp at this
      omega
    obtain rfl : i = ns.length := by have := hi.length; omega
    exact ListRest.zero fun h tk F N => done c m h tk hP (kst_frOut h1 h2 F) N
  | cons v r ih =>
    rintro i m nx hr hi' hlp hoff ⟨c, rfl, hP, h1, h2⟩
    have hlt : i < vs.length := by
      have := congrArg List.length hr
      rw [List.length_drop, List.length_cons] at this
      omega
    rw [List.drop_eq_getElem_cons hlt] at hr
    obtain ⟨hv, hr'⟩ := List.cons.inj hr
    have hlt' : i < ns.length := by have := hi.length; omega
    obtain ⟨t, hx⟩ := hi.get i ns[i] (by simp [hlt'])
    have hv' : v = .int ns[i] t := by
      rw [List.getElem?_eq_getElem hlt] at hx
      rw [hv]; exact Option.some.inj hx
    subst hv'
    refine ListRest.succ fun it h tk _ F N => wpAny_mono (turn c it i ns[i] t m h tk (by simp [hlt']) hP hlp hoff (kst_fr h1 h2 F) N) (fun f s₂ p => ?_) fun _ _ e => e
    have fin : UnrEnd h₀ env.locals { s with heap := h, toks := tk } I it (fun m nx => lp ∈ nx ∧ LpJ Led ps x stored m₀ (P (i + 1)) m nx) s₂ →
        UnrEnd h₀ env.locals { s with heap := h, toks := tk } I it (fun m' n' => lp ∈ n' ∧ ListRest prog w A E h₀ env x body Q s I lp r m' n') s₂ := by
      rintro ⟨h', tk', m', nx', e, F', N', ho, hl, r⟩
      exact ⟨h', tk', m', nx', e, F', N', ho, hl, ih (i + 1) m' nx' hr' hlt hl ho r⟩
    cases f with
    | ret v => exact p
    | brk => exact p
    | next => exact fin p
    | cont => exact fin p
theorem lp_list {σ : Type} {ax : Addr} {vs : List Value} {ns : List Int} {nn : Nat} {m₀ : Str → Option Value} (Led : σ → List (Addr × Obj)) (ps : σ → List (Str × Value)) (stored : List Str) (P : Nat → σ → Prop) (c₀ : σ)
    (hh : A.handled = none) (hm : (ax, listOf vs.toArray nn) ∈ Led c₀) (hi : IntsAre vs ns) (F : Fr h₀ env.locals s.heap m₀) (N : News h₀ env.locals s.heap (Led c₀)) (hk : ∀ p ∈ ps c₀, m₀ p.1 = some p.2) (hp : P 0 c₀)
    (turn : ∀ (c : σ) I it i n t (u : Str → Option Value) h tk, ns[i]? = some n → P i c → (ax, listOf vs.toArray nn) ∈ Led c → (∀ p ∈ Led c, p.1 ≠ I) →
      Fr h₀ env.locals h (fun y => if y = x then some (.int n t) else kstB (fun z => if stored.contains z then u z else m₀ z) (ps c) y) → News h₀ env.locals h ((I, it) :: Led c) →
      wpAny (model prog w) A (execs body env) (LpPost h₀ env.locals { s with heap := h, toks := tk } I it (fun m nx => (ax, listOf vs.toArray nn) ∈ nx ∧ LpJ Led ps x stored m₀ (P (i + 1)) m nx) Q) E { s with heap := h, toks := tk })
    (done : ∀ (c : σ) (u : Str → Option Value) h tk, P ns.length c → Fr h₀ env.locals h (fun y => if y = x then u y else kstB (fun z => if stored.contains z then u z else m₀ z) (ps c) y) → News h₀ env.locals h (Led c) → Q .next { s with heap := h, toks := tk }) :
    wpAny (model prog w) A (pyIter (.ref ax)) (fun it s₂ => LoopAtV prog w A h₀ env x body Q E it s₂) E s :=
  iter_listUnr hh F N hm rfl rfl fun I hI => lp_listRest Led ps stored P hi (fun c it => turn c I it) done vs 0 m₀ (Led c₀) rfl (Nat.zero_le _) hm (fun p hp => Nat.ne_of_lt (hI p hp)) ⟨c₀, rfl, hp, hk, fun _ _ _ _ => rfl⟩

theorem ints_rev : ∀ {vs : List Value} {ns : List Int}, IntsAre vs ns → IntsAre vs.reverse ns.reverse
  | _, _, .nil => .nil
  | _, _, .cons n t h => by rw [List.reverse_cons, List.reverse_cons]; exact (ints_rev h).append (.cons n t .nil)
theorem offI_of {I : Addr} {it : Obj} : ∀ {l : List (Addr × Obj)}, (∀ p ∈ l, p.1 ≠ I) → OffI I it l
  | [], _ => trivial
  | _ :: _, h => ⟨.inl (h _ (.head _)), offI_of fun q hq => h q (.tail _ hq)⟩
theorem lp_revRest {σ : Type} {I : Addr} {lp : Addr × Obj} {vs : List Value} {ns : List Int} {m₀ : Str → Option Value} (Led : σ → List (Addr × Obj)) (ps : σ → List (Str × Value)) (stored : List Str) (P : Nat → σ → Prop) (hi : IntsAre vs ns)
    (turn : ∀ (c : σ) it i n t (u : Str → Option Value) h tk, ns[i]? = some n → P i c → lp ∈ Led c → (∀ p ∈ Led c, p.1 ≠ I) →
      Fr h₀ env.locals h (fun y => if y = x then some (.int n t) else kstB (fun z => if stored.contains z then u z else m₀ z) (ps c) y) → News h₀ env.locals h ((I, it) :: Led c) →
      wpAny (model prog w) A (execs body env) (LpPost h₀ env.locals { s with heap := h, toks := tk } I it (fun m nx => lp ∈ nx ∧ LpJ Led ps x stored m₀ (P (i + 1)) m nx) Q) E { s with heap := h, toks := tk })
    (done : ∀ (c : σ) (u : Str → Option Value) h tk, P ns.length c → Fr h₀ env.locals h (fun y => if y = x then u y else kstB (fun z => if stored.contains z then u z else m₀ z) (ps c) y) → News h₀ env.locals h (Led c) → Q .next { s with heap := h, toks := tk }) :
    ∀ (r : List Value) (i : Nat) (m : Str → Option Value) (nx : List (Addr × Obj)), r = vs.drop i → i ≤ vs.length → lp ∈ nx → (∀ p ∈ nx, p.1 ≠ I) → LpJ Led ps x stored m₀ (P i) m nx → RevRest prog w A E h₀ env x body Q s I lp r m nx := by
  intro r
  induction r with
  | nil =>
    rintro i m nx hr hi' _ _ ⟨c, rfl, hP, h1, h2⟩
    have hlen : vs.length ≤ i := by
      have := congrArg List.length hr
      rw [List.length_drop] at this
      simp at this
      omega
    obtain rfl : i = ns.length := by have := hi.length; omega
    exact RevRest.zero fun h tk F N => done c m h tk hP (kst_frOut h1 h2 F) N
  | cons v r ih =>
    rintro i m nx hr hi' hlp hoff ⟨c, rfl, hP, h1, h2⟩
    have hlt : i < vs.length := by
      have := congrArg List.length hr
      rw [List.length_drop, List.length_cons] at this
      omega
    rw [List.drop_eq_getElem_cons hlt] at hr
    obtain ⟨hv, hr'⟩ := List.cons.inj hr
    have hlt' : i < ns.length := by have := hi.length; omega
    obtain ⟨t, hx⟩ := hi.get i ns[i] (by simp [hlt'])
    have hv' : v = .int ns[i] t := by
      rw [List.getElem?_eq_getElem hlt] at hx
      rw [hv]; exact Option.some.inj hx
    subst hv'
    refine RevRest.succ fun it h tk _ F N => wpAny_mono (turn c it i ns[i] t m h tk (by simp [hlt']) hP hlp hoff (kst_fr h1 h2 F) N) (fun f s₂ p => ?_) fun _ _ e => e
    have fin : UnrEnd h₀ env.locals { s with heap := h, toks := tk } I it (fun m nx => lp ∈ nx ∧ LpJ Led ps x stored m₀ (P (i + 1)) m nx) s₂ →
        UnrEnd h₀ env.locals { s with heap := h, toks := tk } I it (fun m' n' => lp ∈ n' ∧ RevRest prog w A E h₀ env x body Q s I lp r m' n') s₂ := by
      rintro ⟨h', tk', m', nx', e, F', N', ho, hl, r⟩
      exact ⟨h', tk', m', nx', e, F', N', ho, hl, ih (i + 1) m' nx' hr' hlt hl ho r⟩
    cases f with
    | ret v => exact p
    | brk => exact p
    | next => exact fin p
    | cont => exact fin p
theorem lp_rev {σ : Type} {ax I : Addr} {vs : List Value} {ns : List Int} {nn : Nat} {m₀ : Str → Option Value} (Led : σ → List (Addr × Obj)) (ps : σ → List (Str × Value)) (stored : List Str) (P : Nat → σ → Prop) (c₀ : σ)
    (hh : A.handled = none) (hm : (ax, listOf vs.toArray nn) ∈ Led c₀) (hi : IntsAre vs ns) (F : Fr h₀ env.locals s.heap m₀) (N : News h₀ env.locals s.heap ((I, revObj ax ((vs.length : Int) - 1)) :: Led c₀)) (hoff : ∀ p ∈ Led c₀, p.1 ≠ I) (hk : ∀ p ∈ ps c₀, m₀ p.1 = some p.2) (hp : P 0 c₀)
    (turn : ∀ (c : σ) it i n t (u : Str → Option Value) h tk, ns.reverse[i]? = some n → P i c → (ax, listOf vs.toArray nn) ∈ Led c → (∀ p ∈ Led c, p.1 ≠ I) →
      Fr h₀ env.locals h (fun y => if y = x then some (.int n t) else kstB (fun z => if stored.contains z then u z else m₀ z) (ps c) y) → News h₀ env.locals h ((I, it) :: Led c) →
      wpAny (model prog w) A (execs body env) (LpPost h₀ env.locals { s with heap := h, toks := tk } I it (fun m nx => (ax, listOf vs.toArray nn) ∈ nx ∧ LpJ Led ps x stored m₀ (P (i + 1)) m nx) Q) E { s with heap := h, toks := tk })
    (done : ∀ (c : σ) (u : Str → Option Value) h tk, P ns.reverse.length c → Fr h₀ env.locals h (fun y => if y = x then u y else kstB (fun z => if stored.contains z then u z else m₀ z) (ps c) y) → News h₀ env.locals h (Led c) → Q .next { s with heap := h, toks := tk }) :
    wpAny (model prog w) A (pyIter (.ref I)) (fun it s₂ => LoopAtV prog w A h₀ env x body Q E it s₂) E s :=
  iter_revUnr hh F N (offI_of hoff) hm rfl rfl (lp_revRest Led ps stored P (ints_rev hi) turn done vs.reverse 0 m₀ (Led c₀) rfl (Nat.zero_le _) hm hoff ⟨c₀, rfl, hp, hk, fun _ _ _ _ => rfl⟩)
end

/-! the tables, once grown -/
def GI (l : List (Addr × Obj)) : Prop := ∃ c' oc vc t, (30, tabObj #[rawInt 32, rawInt 4, .ref c']) ∈ l ∧ (c', oc) ∈ l ∧ oc.data = .fields vc ∧ (vc[1]? : Option Value) = some (.str (Str.ofString "_int2digits.<locals>.inner") t)
def GD (l : List (Addr × Obj)) : Prop := ∃ c' oc vc t, (37, tabObj #[rawInt 47, rawInt 4, .ref c']) ∈ l ∧ (c', oc) ∈ l ∧ oc.data = .fields vc ∧ (vc[1]? : Option Value) = some (.str (Str.ofString "_digits2int.<locals>.inner") t)
theorem GI.mono {l l' : List (Addr × Obj)} (h : GI l) (s : ∀ p ∈ l, p ∈ l') : GI l' := let ⟨c, o, v, t, a, b, d⟩ := h; ⟨c, o, v, t, s _ a, s _ b, d⟩
theorem GD.mono {l l' : List (Addr × Obj)} (h : GD l) (s : ∀ p ∈ l, p ∈ l') : GD l' := let ⟨c, o, v, t, a, b, d⟩ := h; ⟨c, o, v, t, s _ a, s _ b, d⟩
theorem GI.cons {l : List (Addr × Obj)} {p : Addr × Obj} (h : GI l) : GI (p :: l) := h.mono fun _ hq => .tail _ hq
theorem GD.cons {l : List (Addr × Obj)} {p : Addr × Obj} (h : GD l) : GD (p :: l) := h.mono fun _ hq => .tail _ hq
theorem i2_g {w : World} {loose : List Str} {mean : ExcName → Option Value} {mg mb : Str → Option Value} {dp un : Nat} {gd : Option (List Code)} {cn : Str} {cs : Scope} {a : Addr} {ccd : Value} {cl : List (Str × Addr)} {outer : List Env} {A₀ : Around} {base h₀ : Heap} {L : Addr} {m : Str → Option Value} {s : Shared} {Q E : Value → Shared → Prop} {news : List (Addr × Obj)} {x n : Int} {tx tn : Tok} {k nb : Nat}
   (X : (Mine01.hd.heap_39 w.params).In h₀) (B : Below A₀ base outer h₀) (F : Fr h₀ L s.heap m) (N : News h₀ L s.heap news) (T : Top topProg loose mean mg mb h₀) (hk : cs.kind = .function) (hC : CodeHd base 34 30) (hG : GI news)
   (h0 : 0 ≤ x) (h1 : x < 2 ^ 40) (hn : n = (nb : Int)) (h2 : 1 ≤ n) (h3 : n ≤ 30) (h4 : ((Builtin.Int.intBits x : Int) + n - 1).fdiv n = (k : Int)) (h5 : k < 100) (h6 : x < 2 ^ (nb * k)) (h7 : k = 0 ↔ x = 0) (hd : dp + 300 < recursionLimit) (hu : un + 3000 < cLine)
   (h : ∀ D vs' cap h' tk', IntsAre vs' (digs nb k x) → Fr h₀ L h' m → News h₀ L h' ((D, listOf vs'.toArray cap) :: news) → (∀ p ∈ news, p.1 < D) → Q (.ref D) { s with heap := h', toks := tk' }) :
   wpAny (model PySem.Challenge.rw_gy0003_01.row.prog w) (ktrTop dp un gd cn cs L a ccd cl outer) (call (.ref 35) [.int x tx, .int n tn]) Q E s :=
  let ⟨_, _, _, _, a, b, c, d⟩ := hG
  i2_b X B F N T hk hC a b c d h0 h1 hn h2 h3 h4 h5 h6 h7 hd hu h
theorem d2_g {w : World} {loose : List Str} {mean : ExcName → Option Value} {mg mb : Str → Option Value} {dp un : Nat} {gd : Option (List Code)} {cn : Str} {cs : Scope} {a : Addr} {ccd : Value} {cl : List (Str × Addr)} {outer : List Env} {A₀ : Around} {base h₀ : Heap} {L : Addr} {m : Str → Option Value} {s : Shared} {Q E : Value → Shared → Prop} {news : List (Addr × Obj)} {D : Addr} {vs : List Value} {ns : List Int} {cap : Nat} {n : Int} {tn : Tok} {nb : Nat}
   (X : (Mine01.hd.heap_39 w.params).In h₀) (B : Below A₀ base outer h₀) (F : Fr h₀ L s.heap m) (N : News h₀ L s.heap news) (T : Top topProg loose mean mg mb h₀) (hk : cs.kind = .function) (hC : CodeHd base 41 37) (hG : GD news)
   (hD : (D, listOf vs.toArray cap) ∈ news) (hi : IntsAre vs ns) (hb : Bel nb ns) (hl : ns.length < 100) (hn : n = (nb : Int)) (h2 : 1 ≤ n) (h3 : n ≤ 30) (hd : dp + 300 < recursionLimit) (hu : un + 3000 < cLine)
   (h : ∀ v u h' tk', 0 ≤ v → Fr h₀ L h' m → News h₀ L h' news → Q (.int v u) { s with heap := h', toks := tk' }) :
   wpAny (model PySem.Challenge.rw_gy0003_01.row.prog w) (ktrTop dp un gd cn cs L a ccd cl outer) (call (.ref 42) [.ref D, .int n tn]) Q E s :=
  let ⟨_, _, _, _, a, b, c, d⟩ := hG
  d2_b X B F N T hk hC a b c d hD hi hb hl hn h2 h3 hd hu h
/-! plain: long division by figures -/
theorem bits_eq {x : Int} (h0 : 0 ≤ x) : x < 2 ^ (Builtin.Int.intBits x) ∧ (0 < x → 2 ^ (Builtin.Int.intBits x - 1) ≤ x) := by
  unfold Builtin.Int.intBits
  split
  · rename_i h; have : x = 0 := by simpa using h
    subst this; exact ⟨by decide, by omega⟩
  · rename_i h
    have hx : x.natAbs ≠ 0 := by simpa using h
    have e : (x.natAbs : Int) = x := by omega
    have h1 : x.natAbs < 2 ^ (x.natAbs.log2 + 1) := Nat.lt_log2_self
    have h2 : 2 ^ x.natAbs.log2 ≤ x.natAbs := Nat.log2_self_le hx
    have c1 := kbt_cast (x.natAbs.log2 + 1)
    have c2 := kbt_cast x.natAbs.log2
    refine ⟨by omega, fun _ => ?_⟩
    rw [Nat.add_sub_cancel]; omega
theorem dig_count {x : Int} {nb : Nat} (h0 : 0 ≤ x) (h1 : x < 2 ^ 40) (hn : 1 ≤ nb) (hn2 : nb ≤ 30) :
    ∃ k : Nat, ((Builtin.Int.intBits x : Int) + (nb : Int) - 1).fdiv (nb : Int) = (k : Int) ∧ k < 100 ∧ x < 2 ^ (nb * k) ∧ (k = 0 ↔ x = 0) := by
  have hb : Builtin.Int.intBits x ≤ 40 := bits_le (by omega)
  have hx := bits_eq h0
  refine ⟨(Builtin.Int.intBits x + nb - 1) / nb, ?_, ?_, ?_, ?_⟩
  · rw [Int.fdiv_eq_ediv_of_nonneg _ (by omega), Int.natCast_ediv]
    congr 1; omega
  · have := Nat.div_le_self (Builtin.Int.intBits x + nb - 1) nb
    omega
  · have h2 : Builtin.Int.intBits x ≤ nb * ((Builtin.Int.intBits x + nb - 1) / nb) := by
      have := Nat.div_add_mod (Builtin.Int.intBits x + nb - 1) nb
      have := Nat.mod_lt (Builtin.Int.intBits x + nb - 1) (show nb > 0 by omega)
      omega
    have h3 : 2 ^ Builtin.Int.intBits x ≤ 2 ^ (nb * ((Builtin.Int.intBits x + nb - 1) / nb)) := Nat.pow_le_pow_right (by decide) h2
    have c1 := kbt_cast (Builtin.Int.intBits x)
    have c2 := kbt_cast (nb * ((Builtin.Int.intBits x + nb - 1) / nb))
    omega
  · constructor
    · intro hk
      have h2 : Builtin.Int.intBits x + nb - 1 < nb := by
        rcases Nat.lt_or_ge (Builtin.Int.intBits x + nb - 1) nb with h | h
        · exact h
        · have := Nat.div_pos h (by omega); omega
      have h3 : Builtin.Int.intBits x = 0 := by omega
      have := hx.1
      rw [h3] at this
      omega
    · intro hx0
      subst hx0
      have : Builtin.Int.intBits 0 = 0 := rfl
      rw [this, Nat.zero_add]
      exact Nat.div_eq_of_lt (by omega)
noncomputable def hornM (nb : Nat) (b : Int) (ds : List Int) : Int := ds.foldl (fun r d => (r * 2 ^ nb + d) % b) 0
theorem hornM_snoc {nb : Nat} {b d : Int} {ds : List Int} : hornM nb b (ds ++ [d]) = (hornM nb b ds * 2 ^ nb + d) % b := by simp [hornM]
theorem horn_digs {nb : Nat} {b : Int} : ∀ (k : Nat) (x : Int), 0 ≤ x → x < 2 ^ (nb * k) → 0 < b → hornM nb b (digs nb k x).reverse = x % b
  | 0, x, h0, h1, _ => by
    have : x = 0 := by rw [Nat.mul_zero] at h1; omega
    subst this; simp [digs, hornM]
  | k + 1, x, h0, h1, hb => by
    have hp := p2_pos nb
    rw [digs, List.reverse_cons, hornM_snoc, horn_digs k (x / 2 ^ nb) (Int.ediv_nonneg h0 (Int.le_of_lt hp)) (by
      apply Int.ediv_lt_of_lt_mul hp
      rw [Nat.mul_succ, Int.pow_add] at h1; exact h1) hb]
    have e : x / 2 ^ nb * 2 ^ nb + x % 2 ^ nb = x := by rw [Int.mul_comm]; exact Int.mul_ediv_add_emod x (2 ^ nb)
    rw [Int.add_emod, Int.mul_emod, Int.emod_emod, ← Int.mul_emod, ← Int.add_emod, e]
theorem digs_bel {nb : Nat} : ∀ (k : Nat) (x : Int), Bel nb (digs nb k x)
  | 0, _ => fun _ h => nomatch h
  | k + 1, x => fun y h => by
    rw [digs] at h
    rcases List.mem_cons.mp h with rfl | h
    · exact ⟨Int.emod_nonneg _ (Int.ne_of_gt (p2_pos nb)), Int.emod_lt_of_pos _ (p2_pos nb)⟩
    · exact digs_bel k _ y h
theorem bel_rev {nb : Nat} {ns : List Int} (h : Bel nb ns) : Bel nb ns.reverse := fun y hy => h y (List.mem_reverse.mp hy)
theorem bel_snoc {nb : Nat} {ns : List Int} {y : Int} (h : Bel nb ns) (h0 : 0 ≤ y) (h1 : y < 2 ^ nb) : Bel nb (ns ++ [y]) := fun z hz => by
  rcases List.mem_append.mp hz with hz | hz
  · exact h z hz
  · rw [List.mem_singleton.mp hz]; exact ⟨h0, h1⟩
theorem take_snoc {ns : List Int} {i : Nat} {n : Int} (h : ns[i]? = some n) : ns.take (i + 1) = ns.take i ++ [n] := by simp [List.take_add_one, h]
theorem step_facts {r b d : Int} {nb : Nat} (hr0 : 0 ≤ r) (hr : r < b) (hd0 : 0 ≤ d) (hd : d < 2 ^ nb) (hb : b < 2 ^ 30) (hnb : nb ≤ 30) :
    0 ≤ r * 2 ^ nb + d ∧ r * 2 ^ nb + d < 2 ^ 62 ∧ 0 ≤ (r * 2 ^ nb + d).fdiv b ∧ (r * 2 ^ nb + d).fdiv b < 2 ^ nb ∧ (r * 2 ^ nb + d).fmod b = (r * 2 ^ nb + d) % b ∧ 0 ≤ (r * 2 ^ nb + d) % b ∧ (r * 2 ^ nb + d) % b < b := by
  have hp := p2_pos nb
  have h1 : 0 ≤ r * 2 ^ nb := Int.mul_nonneg hr0 (Int.le_of_lt hp)
  have h2 : (r + 1) * 2 ^ nb ≤ b * 2 ^ nb := Int.mul_le_mul_of_nonneg_right (by omega) (Int.le_of_lt hp)
  rw [Int.add_mul, Int.one_mul] at h2
  have h3 : (2 : Int) ^ nb ≤ 2 ^ 30 := by
    have := Nat.pow_le_pow_right (show 0 < 2 by decide) hnb
    have c1 := kbt_cast nb
    omega
  have h4 : b * 2 ^ nb ≤ 2 ^ 30 * 2 ^ 30 := Int.mul_le_mul (by omega) h3 (Int.le_of_lt hp) (by omega)
  have hb0 : 0 < b := by omega
  rw [Int.fdiv_eq_ediv_of_nonneg _ (Int.le_of_lt hb0), Int.fmod_eq_emod_of_nonneg _ (Int.le_of_lt hb0)]
  exact ⟨by omega, by omega, Int.ediv_nonneg (by omega) (by omega), Int.ediv_lt_of_lt_mul hb0 (by have := Int.mul_comm (2 ^ nb) b; omega), rfl, Int.emod_nonneg _ (by omega), Int.emod_lt_of_pos _ hb0⟩
section
variable {prog : Program} {w : World} {A : Around} {E Q : Value → Shared → Prop} {s : Shared} {h₀ : Heap} {L D : Addr} {m : Str → Option Value} {news : List (Addr × Obj)} {g : Obj → List (Addr × Obj)} {vs : List Value} {n : Nat} {v : Value}
theorem append_my (F : Fr h₀ L s.heap m) (N : News h₀ L s.heap news) (U : UpdF D (listOf vs.toArray n) news g) (hz : vs.length < 2 ^ 20)
    (h : ∀ h', Fr h₀ L h' m → News h₀ L h' (g (listOf (vs ++ [v]).toArray (n + 1))) → Q .none { s with heap := h' }) : wpAny (model prog w) A (call (.builtin "list.append") [.ref D, v]) Q E s := by
  have e : vs.toArray.push v = (vs ++ [v]).toArray := by simp
  refine append_K F N (by rw [e]; exact updF_upd U) h (by rw [List.size_toArray, sizeLine_eq]; omega)
theorem reverse_my (F : Fr h₀ L s.heap m) (N : News h₀ L s.heap news) (U : UpdF D (listOf vs.toArray n) news g) (hz : vs.length < 2 ^ 20)
    (h : ∀ h', Fr h₀ L h' m → News h₀ L h' (g (listOf vs.reverse.toArray n)) → Q .none { s with heap := h' }) : wpAny (model prog w) A (call (.builtin "list.reverse") [.ref D]) Q E s :=
  kl_reverse F N (by simp) (updF_upd U) (by rw [sizeLine_eq]; simp; omega) h
end

section
local macro_rules | `(tactic| k_memK) => `(tactic| first | exact List.Mem.head _ | (refine List.Mem.tail _ ?_; k_memK) | assumption)
local macro_rules | `(tactic| k_mem) => `(tactic| first | exact List.Mem.head _ | (refine List.Mem.tail _ ?_; k_mem) | assumption)
local macro_rules | `(tactic| k_all) => `(tactic| first | assumption | (refine allLt_ne ?_; first | assumption | exact And.right (by assumption) | exact And.right (And.right (by assumption)) | exact And.right (And.right (And.right (by assumption))) | exact And.right (And.right (And.right (And.right (by assumption)))) | exact And.right (And.right (And.right (And.right (And.right (by assumption)))))) | exact lt_ne (by assumption) (by omega))
local macro_rules | `(tactic| k_updF) => `(tactic| first | assumption | (refine' UpdF.head ?a; (case a => k_all)) | (refine' UpdF.tail ?a ?b; (case a => k_ne); (case b => k_updF)))
local macro_rules | `(tactic| k_ownIn) => `(tactic| first | assumption | (refine List.Mem.tail _ ?_; k_ownIn))
local macro_rules | `(tactic| k_allIn) => `(tactic| first | (refine List.forall_mem_cons.mpr ⟨by k_memK, ?_⟩; k_allIn) | (intro p hp; k_ownIn))
local macro_rules | `(tactic| walk_at "call ref") => `(tactic| (k_here; refine Stop.out ?_))
local macro_rules | `(tactic| walk_at "call builtin:list.append") => `(tactic| (k_here; k_dflt (refine' append_my ?F ?N ?U ?z ?_; (case F | N => k_asm); (case U => k_updF); (case z => omega)); intro h9 F9 N9; (try dsimp only at N9); (try k_sweep)))
local macro_rules | `(tactic| walk_at "call builtin:list.reverse") => `(tactic| (k_here; k_dflt (refine' reverse_my ?F ?N ?U ?z ?_; (case F | N => k_asm); (case U => k_updF); (case z => omega)); intro h9 F9 N9; (try dsimp only at N9); (try k_sweep)))
local macro_rules | `(tactic| walk_at "binaryOp LShift int int") => `(tactic| (k_here; k_dflt (refine' lsh_my ?e ?a ?b ?c ?_; (case e => with_reducible rfl); (case a | b | c => assumption)); intro t9 tk9))
local macro_rules | `(tactic| walk_at "exec For Name Call cons nil") => `(tactic| (k_here; (rename Fr _ _ _ _ => lF'); (with_unfolding_all refine' For_invVF lF' ?k1 ?k2 ?_; (case k1 | k2 => exact rfl); k_whole)))
local macro_rules | `(tactic| walk_at "pyIter ref") => `(tactic| (k_here; refine Stop.out ?_))
set_option maxRecDepth 100000 in
set_option maxHeartbeats 8000000 in
theorem dp_b {w : World} {loose : List Str} {mean : ExcName → Option Value} {mg mb : Str → Option Value} {dp un : Nat} {gd : Option (List Code)} {cn : Str} {cs : Scope} {a : Addr} {ccd : Value} {cl : List (Str × Addr)} {outer : List Env} {A₀ : Around} {base h₀ : Heap} {L : Addr} {m : Str → Option Value} {s : Shared} {Q E : Value → Shared → Prop} {news : List (Addr × Obj)} {x b : Int} {tx tb : Tok} :
   (Mine01.hd.heap_39 w.params).In h₀ → Below A₀ base outer h₀ → Fr h₀ L s.heap m → News h₀ L s.heap news → Top topProg loose mean mg mb h₀ → cs.kind = .function → CodeHd base 34 30 → CodeHd base 41 37 → GI news → GD news → 0 ≤ x → x < 2 ^ 40 → 0 < b → b < 2 ^ 30 → dp + 302 < recursionLimit → un + 3100 < cLine →
   (∀ T q t u h' tk', Fr h₀ L h' m → News h₀ L h' ((T, tup2 q t (x % b) u) :: news) → (∀ p ∈ news, p.1 < T) → Q (.ref T) { s with heap := h', toks := tk' }) →
   wpAny (model PySem.Challenge.rw_gy0003_01.row.prog w) (ktrTop dp un gd cn cs L a ccd cl outer) (call (.ref 49) [.int x tx, .int b tb]) Q E s := by
  k_fill
  intro X B F N T hk hC hC2 hGI hGD hx0 hx hb hb2 hd hu hret
  have hM := kstMark
  have hnb : Builtin.Int.intBits b ≤ 30 := bits_le (by omega)
  have hnb1 : 1 ≤ Builtin.Int.intBits b := by
    rcases Nat.eq_zero_or_pos (Builtin.Int.intBits b) with h | h
    · have := (bits_eq (Int.le_of_lt hb)).1
      rw [h] at this; omega
    · exact h
  have hbb := (bits_eq (Int.le_of_lt hb)).1
  obtain ⟨k, hk1, hk2, hk3, hk4⟩ := dig_count hx0 hx hnb1 hnb
  refine wpAny_call ?_
  k_dflt (refine' code_def ?k1 ?k2 ?k3 ?k4 ?k5 ?kA ?kF ?kK ?k6 ?k7 ?k8 ?k9 ?kB ?_ ?c2 ?c3 ?c4 ?c5; (case kA => exact rfl); (case kF => exact rfl); (case kK => assumption); (case k1 => k_asm); (case k2 => k_asm); (case k3 => k_asm); (case k4 => k_asm); (case k5 => k_asm); (case k6 => k_is); (case k7 => k_is); (case k8 => ktr_room); (case k9 => first | exact BindsTo.of_eq rfl | exact kp_binds (by k_in) (fun _ => rfl)); (case c5 => decide); (case kB => exact locs rfl); (case c2 => exact rfl); (case c3 => exact rfl); (case c4 => exact rfl); k_whole; intro g' L' h' FG' F' N' B' X' T'; (try dsimp only); (try k_lift B'); (try k_fold))
  k_steps
  refine Stop.intro ?_
  (k_dflt (refine' i2_g ?jX ?jB ?jF ?jN ?jT ?jhk ?jhC ?jhG ?jh0 ?jh1 ?jhn ?jh2 ?jh3 ?jh4 ?jh5 ?jh6 ?jh7 ?jhd ?jhu ?_; (case jX => k_asm); (case jB => k_asm); (case jF => k_asm); (case jN => k_asm); (case jT => k_asm); (case jhk => first | exact rfl | assumption); (case jhC => k_asm); (case jhG => repeat (first | assumption | refine GI.cons ?_)); (case jh0 => omega); (case jh1 => omega); (case jhn => exact Eq.refl (Nat.cast _)); (case jh2 => omega); (case jh3 => omega); (case jh4 => assumption); (case jh5 => assumption); (case jh6 => assumption); (case jh7 => assumption); (case jhd => ktr_room); (case jhu => ktr_units)); intro D9 vs9 cp9 h9 tk9 i9 F9 N9 l9; (try k_lt l9); (try dsimp only); (try k_fold))
  k_steps
  refine Stop.intro ?_
  (rename News _ _ _ _ => NJ)
  (rename Fr _ _ _ _ => FJ)
  refine name_three NJ ?_
  rintro I9 D2 D1 vq1 cp1 rfl rfl rfl rfl rfl
  have hi1 : IntsAre vq1 (digs (Builtin.Int.intBits b) k x) := by assumption
  have hdl := digs_len (Builtin.Int.intBits b) k x
  (with_unfolding_all refine' lp_rev (σ := Int × Tok × List Value × List Int × Nat) (ax := D1) (I := I9) (vs := vq1) (nn := cp1) (fun c => (D2, listOf c.2.2.1.toArray c.2.2.2.2) :: (D1, listOf vq1.toArray cp1) :: news) (fun c => [(Str.ofString "r", .int c.1 c.2.1)]) [Str.ofString "q_digit"] (fun i c => IntsAre c.2.2.1 c.2.2.2.1 ∧ c.2.2.2.1.length = i ∧ Bel (Builtin.Int.intBits b) c.2.2.2.1 ∧ c.1 = hornM (Builtin.Int.intBits b) b ((digs (Builtin.Int.intBits b) k x).reverse.take i) ∧ 0 ≤ c.1 ∧ c.1 < b) (0, _, [], [], 0) rfl ?lm hi1 FJ NJ ?lo ?lk ?lp ?lt ?ld)
  case lk => kst_all
  case lm => exact .tail _ (.head _)
  case lo => exact List.forall_mem_cons.mpr ⟨by k_ne, List.forall_mem_cons.mpr ⟨by k_ne, allLt_ne (And.right (And.right (by assumption)))⟩⟩
  case lp => exact ⟨.nil, rfl, (fun _ h => nomatch h), rfl, Int.le_refl 0, hb⟩
  case lt =>
    rintro ⟨r, tr, vq, qs, cap⟩ it i n t u h tk hn ⟨p1, p2, p3, p4, p5, p6⟩ hmem hoff F9 N9
    dsimp only at p1 p2 p3 p4 p5 p6 F9 N9
    have hnm : n ∈ digs (Builtin.Int.intBits b) k x := List.mem_reverse.mp (List.mem_of_getElem? hn)
    have hnd := digs_bel _ _ n hnm
    obtain ⟨s1, s2, s3, s4, s5, s6, s7⟩ := step_facts p5 p6 hnd.1 hnd.2 hb2 hnb
    have hr30 : r < 2 ^ 30 := by omega
    have hc30 : 30 + Builtin.Int.intBits b ≤ 100000 := by omega
    have hil : i < k := by
      have h1 := (List.getElem?_eq_some_iff.mp hn).1
      rw [List.length_reverse, hdl] at h1; exact h1
    have hvl := p1.length
    (try k_fold)
    k_steps
    refine Stop.intro ?_
    (k_dflt (refine' dv_c ?jX ?jB ?jF ?jN ?jT ?jhk ?ja ?jb ?jc ?jd ?je ?jhd ?jhu ?_; (case jX => k_asm); (case jB => k_asm); (case jF => k_asm); (case jN => k_asm); (case jT => k_asm); (case jhk => first | exact rfl | assumption); (case ja => assumption); (case jb => assumption); (case jc => assumption); (case jd => assumption); (case je => omega); (case jhd => ktr_room); (case jhu => ktr_units)); intro T9 t9 u9 h9 tk9 F9 N9 l9; (try k_lt l9); (try dsimp only); (try k_fold))
    k_steps
    all_goals (
      refine' LpPost.nextL (_, _, _, qs ++ [(r * 2 ^ Builtin.Int.intBits b + n).fdiv b], _) (by assumption) (by assumption) ?zP ?zs ?zo ?zk ?zh ?zl
      case zk => kst_all
      case zs => k_allIn
      case zo =>
        have z0 : D2 ≠ I9 := hoff _ (.head _)
        exact List.forall_mem_cons.mpr ⟨z0, fun p hp => hoff p (.tail _ hp)⟩
      case zh =>
        intro z h1 h2 h3
        have h2' : z ≠ Str.ofString "r" := h2 _ (.head _)
        have h3' : z ≠ Str.ofString "q_digit" := by simpa using h3
        simp [kstB, h1, h2', h3']
      case zl => exact .tail _ (.head _)
      case zP =>
        refine ⟨p1.append (.cons _ _ .nil), by rw [List.length_append]; exact congrArg (· + 1) p2, bel_snoc p3 s3 s4, ?_, ?_, ?_⟩
        · rw [take_snoc hn, hornM_snoc, ← p4]; exact s5
        · rw [s5]; exact s6
        · rw [s5]; exact s7)
  case ld =>
    rintro ⟨r, tr, vq, qs, cap⟩ u h tk ⟨p1, p2, p3, p4, p5, p6⟩ F9 N9
    dsimp only at p1 p2 p3 p4 p5 p6 F9 N9
    rw [List.take_length, horn_digs k x hx0 hk3 hb] at p4
    subst p4
    rw [List.length_reverse, hdl] at p2
    have hvl := p1.length
    have p1r := ints_rev p1
    have p3r := bel_rev p3
    have p2r : qs.reverse.length < 100 := by rw [List.length_reverse]; omega
    (try k_fold)
    k_steps
    refine Stop.intro ?_
    (k_dflt (refine' d2_g ?jX ?jB ?jF ?jN ?jT ?jhk ?jhC ?jhG ?jmD ?jhi ?jhb ?jhl ?jhn ?jh2 ?jh3 ?jhd ?jhu ?_; (case jX => k_asm); (case jB => k_asm); (case jF => k_asm); (case jN => k_asm); (case jT => k_asm); (case jhk => first | exact rfl | assumption); (case jhC => k_asm); (case jhG => repeat (first | assumption | refine GD.cons ?_)); (case jmD => k_mem); (case jhi => assumption); (case jhb => assumption); (case jhl => assumption); (case jhn => exact Eq.refl (Nat.cast _)); (case jh2 => omega); (case jh3 => omega); (case jhd => ktr_room); (case jhu => ktr_units)); intro v9 u9 h9 tk9 p9 F9 N9; (try dsimp only); (try k_fold))
    k_steps
    refine hret _ _ _ _ _ _ (by assumption) (cb_drop (by assumption) (by k_allIn)) ?_
    exact allLt_lt (And.right (And.right (by assumption)))
set_option maxRecDepth 100000 in
set_option maxHeartbeats 8000000 in
theorem dp_ff {w : World} {loose : List Str} {mean : ExcName → Option Value} {mg mb : Str → Option Value} {dp un : Nat} {gd : Option (List Code)} {cn : Str} {cs : Scope} {a : Addr} {ccd : Value} {cl : List (Str × Addr)} {outer : List Env} {A₀ : Around} {base h₀ : Heap} {L : Addr} {m : Str → Option Value} {s : Shared} {Q E : Value → Shared → Prop} {news : List (Addr × Obj)} {x b : Int} {tx tb : Tok} :
   (Mine01.hd.heap_39 w.params).In h₀ → Below A₀ base outer h₀ → Fr h₀ L s.heap m → News h₀ L s.heap ((37, tabObj #[]) :: (30, tabObj #[]) :: news) → Top topProg loose mean mg mb h₀ → cs.kind = .function → CodeHd base 34 30 → CodeHd base 41 37 → (∀ p ∈ news, p.1 ≠ 37) → (∀ p ∈ news, p.1 ≠ 30) → 0 ≤ x → x < 2 ^ 40 → 0 < b → b < 2 ^ 30 → dp + 302 < recursionLimit → un + 3100 < cLine →
   (∀ T q t u c' oc vc tc c₂ oc₂ vc₂ tc₂ h' tk', Fr h₀ L h' m → News h₀ L h' ((T, tup2 q t (x % b) u) :: (37, tabObj #[rawInt 47, rawInt 4, .ref c']) :: (c', oc) :: (30, tabObj #[rawInt 32, rawInt 4, .ref c₂]) :: (c₂, oc₂) :: news) → (∀ p ∈ news, p.1 < c₂) → @LT.lt Nat _ c₂ c' → @LT.lt Nat _ c' T → oc.data = .fields vc → vc[1]? = some (.str (Str.ofString "_digits2int.<locals>.inner") tc) → oc₂.data = .fields vc₂ → vc₂[1]? = some (.str (Str.ofString "_int2digits.<locals>.inner") tc₂) → Q (.ref T) { s with heap := h', toks := tk' }) →
   wpAny (model PySem.Challenge.rw_gy0003_01.row.prog w) (ktrTop dp un gd cn cs L a ccd cl outer) (call (.ref 49) [.int x tx, .int b tb]) Q E s := by
  k_fill
  intro X B F N T hk hC hC2 h37 h30 hx0 hx hb hb2 hd hu hret
  have hM := kstMark
  have hnb : Builtin.Int.intBits b ≤ 30 := bits_le (by omega)
  have hnb1 : 1 ≤ Builtin.Int.intBits b := by
    rcases Nat.eq_zero_or_pos (Builtin.Int.intBits b) with h | h
    · have := (bits_eq (Int.le_of_lt hb)).1
      rw [h] at this; omega
    · exact h
  have hbb := (bits_eq (Int.le_of_lt hb)).1
  obtain ⟨k, hk1, hk2, hk3, hk4⟩ := dig_count hx0 hx hnb1 hnb
  refine wpAny_call ?_
  k_dflt (refine' code_def ?k1 ?k2 ?k3 ?k4 ?k5 ?kA ?kF ?kK ?k6 ?k7 ?k8 ?k9 ?kB ?_ ?c2 ?c3 ?c4 ?c5; (case kA => exact rfl); (case kF => exact rfl); (case kK => assumption); (case k1 => k_asm); (case k2 => k_asm); (case k3 => k_asm); (case k4 => k_asm); (case k5 => k_asm); (case k6 => k_is); (case k7 => k_is); (case k8 => ktr_room); (case k9 => first | exact BindsTo.of_eq rfl | exact kp_binds (by k_in) (fun _ => rfl)); (case c5 => decide); (case kB => exact locs rfl); (case c2 => exact rfl); (case c3 => exact rfl); (case c4 => exact rfl); k_whole; intro g' L' h' FG' F' N' B' X' T'; (try dsimp only); (try k_lift B'); (try k_fold))
  k_steps
  refine Stop.intro ?_
  k_dflt (refine' i2_f (news := (37, tabObj #[]) :: news) (k := k) ?yX ?yB ?yF ?yN ?yT ?yk ?yC ?y30 ?y0 ?y1 ?yn ?y2 ?y3 ?y4 ?y5 ?y6 ?y7 ?yd ?yu ?_; (case yX => k_asm); (case yB => k_asm); (case yF => k_asm); (case yN => exact cb_drop (by assumption) (by k_allIn)); (case yT => k_asm); (case yk => exact rfl); (case yC => k_asm); (case y30 => exact List.forall_mem_cons.mpr ⟨by decide, h30⟩); (case y0 => assumption); (case y1 => assumption); (case yn => exact Eq.refl (Nat.cast _)); (case y2 => omega); (case y3 => omega); (case y4 => assumption); (case y5 => assumption); (case y6 => assumption); (case y7 => assumption); (case yd => ktr_room); (case yu => ktr_units))
  intro D1 vq1 cp1 c₂ oc₂ vc₂ tc₂ h1 tk1 hi1 F1 N1 l1 l1b l1c d1 e1
  have N2 : News _ _ h1 ((D1, listOf vq1.toArray cp1) :: (37, tabObj #[]) :: (30, tabObj #[rawInt 32, rawInt 4, .ref c₂]) :: (c₂, oc₂) :: news) := cb_drop N1 (by k_allIn)
  have hcc : ∀ p ∈ news, p.1 < c₂ := fun p hp => Nat.lt_trans (l1 p (.tail _ hp)) l1c
  have l37 : @LT.lt Nat _ 37 D1 := l1 _ (.head _)
  have hGI : GI ((30, tabObj #[rawInt 32, rawInt 4, .ref c₂]) :: (c₂, oc₂) :: news) := ⟨c₂, oc₂, _, _, .head _, .tail _ (.head _), d1, e1⟩
  have h37b : ∀ p ∈ (30, tabObj #[rawInt 32, rawInt 4, .ref c₂]) :: (c₂, oc₂) :: news, p.1 ≠ 37 := List.forall_mem_cons.mpr ⟨(by show @Ne Nat 30 37; decide), List.forall_mem_cons.mpr ⟨(fun e => by (have e' : @Eq Nat c₂ 37 := e); omega), h37⟩⟩
  have hnD : ∀ p ∈ (30, tabObj #[rawInt 32, rawInt 4, .ref c₂]) :: (c₂, oc₂) :: news, @Ne Nat p.1 D1 := List.forall_mem_cons.mpr ⟨Nat.ne_of_lt l1b, List.forall_mem_cons.mpr ⟨Nat.ne_of_gt l1c, fun p hp => Nat.ne_of_lt (l1 p (.tail _ hp))⟩⟩
  have hret' : ∀ T q t u c' oc vc tc h' tk', Fr h₀ L h' m → News h₀ L h' ((T, tup2 q t (x % b) u) :: (37, tabObj #[rawInt 47, rawInt 4, .ref c']) :: (c', oc) :: (30, tabObj #[rawInt 32, rawInt 4, .ref c₂]) :: (c₂, oc₂) :: news) → @LT.lt Nat _ c₂ c' → @LT.lt Nat _ c' T → oc.data = .fields vc → vc[1]? = some (.str (Str.ofString "_digits2int.<locals>.inner") tc) → Q (.ref T) { s with heap := h', toks := tk' } := fun T q t u c' oc vc tc h' tk' F' N' a1 a2 a3 a4 => hret T q t u c' oc vc tc c₂ oc₂ vc₂ tc₂ h' tk' F' N' hcc a1 a2 a3 a4 d1 e1
  have hcm : (c₂, oc₂) ∈ (30, tabObj #[rawInt 32, rawInt 4, .ref c₂]) :: (c₂, oc₂) :: news := .tail _ (.head _)
  clear N1 l1 hret h37 h30 hcc
  generalize (30, tabObj #[rawInt 32, rawInt 4, .ref c₂]) :: (c₂, oc₂) :: news = nws at N2 hGI h37b hnD hret' hcm
  (try dsimp only)
  (try k_fold)
  k_steps
  refine Stop.intro ?_
  (rename News _ _ _ _ => NJ)
  (rename Fr _ _ _ _ => FJ)
  refine name_three NJ ?_
  rintro I9 D2 D1 vq1 cp1 rfl rfl rfl rfl rfl
  have hdl := digs_len (Builtin.Int.intBits b) k x
  (with_unfolding_all refine' lp_rev (σ := Int × Tok × List Value × List Int × Nat) (ax := D1) (I := I9) (vs := vq1) (nn := cp1) (fun c => (D2, listOf c.2.2.1.toArray c.2.2.2.2) :: (D1, listOf vq1.toArray cp1) :: (37, tabObj #[]) :: nws) (fun c => [(Str.ofString "r", .int c.1 c.2.1)]) [Str.ofString "q_digit"] (fun i c => IntsAre c.2.2.1 c.2.2.2.1 ∧ c.2.2.2.1.length = i ∧ Bel (Builtin.Int.intBits b) c.2.2.2.1 ∧ c.1 = hornM (Builtin.Int.intBits b) b ((digs (Builtin.Int.intBits b) k x).reverse.take i) ∧ 0 ≤ c.1 ∧ c.1 < b) (0, _, [], [], 0) rfl ?lm hi1 FJ NJ ?lo ?lk ?lp ?lt ?ld)
  case lk => kst_all
  case lm => exact .tail _ (.head _)
  case lo => exact List.forall_mem_cons.mpr ⟨by k_ne, List.forall_mem_cons.mpr ⟨by k_ne, List.forall_mem_cons.mpr ⟨by k_ne, allLt_ne (And.right (And.right (And.right (by assumption))))⟩⟩⟩
  case lp => exact ⟨.nil, rfl, (fun _ h => nomatch h), rfl, Int.le_refl 0, hb⟩
  case lt =>
    rintro ⟨r, tr, vq, qs, cap⟩ it i n t u h tk hn ⟨p1, p2, p3, p4, p5, p6⟩ hmem hoff F9 N9
    dsimp only at p1 p2 p3 p4 p5 p6 F9 N9
    have hnm : n ∈ digs (Builtin.Int.intBits b) k x := List.mem_reverse.mp (List.mem_of_getElem? hn)
    have hnd := digs_bel _ _ n hnm
    obtain ⟨s1, s2, s3, s4, s5, s6, s7⟩ := step_facts p5 p6 hnd.1 hnd.2 hb2 hnb
    have hr30 : r < 2 ^ 30 := by omega
    have hc30 : 30 + Builtin.Int.intBits b ≤ 100000 := by omega
    have hil : i < k := by
      have h1 := (List.getElem?_eq_some_iff.mp hn).1
      rw [List.length_reverse, hdl] at h1; exact h1
    have hvl := p1.length
    (try k_fold)
    k_steps
    refine Stop.intro ?_
    (k_dflt (refine' dv_c ?jX ?jB ?jF ?jN ?jT ?jhk ?ja ?jb ?jc ?jd ?je ?jhd ?jhu ?_; (case jX => k_asm); (case jB => k_asm); (case jF => k_asm); (case jN => k_asm); (case jT => k_asm); (case jhk => first | exact rfl | assumption); (case ja => assumption); (case jb => assumption); (case jc => assumption); (case jd => assumption); (case je => omega); (case jhd => ktr_room); (case jhu => ktr_units)); intro T9 t9 u9 h9 tk9 F9 N9 l9; (try k_lt l9); (try dsimp only); (try k_fold))
    k_steps
    all_goals (
      refine' LpPost.nextL (_, _, _, qs ++ [(r * 2 ^ Builtin.Int.intBits b + n).fdiv b], _) (by assumption) (by assumption) ?zP ?zs ?zo ?zk ?zh ?zl
      case zk => kst_all
      case zs => k_allIn
      case zo =>
        have z0 : D2 ≠ I9 := hoff _ (.head _)
        exact List.forall_mem_cons.mpr ⟨z0, fun p hp => hoff p (.tail _ hp)⟩
      case zh =>
        intro z h1 h2 h3
        have h2' : z ≠ Str.ofString "r" := h2 _ (.head _)
        have h3' : z ≠ Str.ofString "q_digit" := by simpa using h3
        simp [kstB, h1, h2', h3']
      case zl => exact .tail _ (.head _)
      case zP =>
        refine ⟨p1.append (.cons _ _ .nil), by rw [List.length_append]; exact congrArg (· + 1) p2, bel_snoc p3 s3 s4, ?_, ?_, ?_⟩
        · rw [take_snoc hn, hornM_snoc, ← p4]; exact s5
        · rw [s5]; exact s6
        · rw [s5]; exact s7)
  case ld =>
    rintro ⟨r, tr, vq, qs, cap⟩ u h tk ⟨p1, p2, p3, p4, p5, p6⟩ F9 N9
    dsimp only at p1 p2 p3 p4 p5 p6 F9 N9
    rw [List.take_length, horn_digs k x hx0 hk3 hb] at p4
    subst p4
    rw [List.length_reverse, hdl] at p2
    have hvl := p1.length
    have p1r := ints_rev p1
    have p3r := bel_rev p3
    have p2r : qs.reverse.length < 100 := by rw [List.length_reverse]; omega
    (try k_fold)
    k_steps
    refine Stop.intro ?_
    k_dflt (refine' d2_f (news := (D2, listOf vq.reverse.toArray cap) :: (D1, listOf vq1.toArray cp1) :: nws) ?yX ?yB ?yF ?yN ?yT ?yk ?yC ?y37 ?yD ?yi ?yb ?yl ?yn ?y2 ?y3 ?yd ?yu ?_; (case yX => k_asm); (case yB => k_asm); (case yF => k_asm); (case yN => exact cb_drop (by assumption) (by k_allIn)); (case yT => k_asm); (case yk => exact rfl); (case yC => k_asm); (case yD => exact .head _); (case y37 => exact List.forall_mem_cons.mpr ⟨by k_ne, List.forall_mem_cons.mpr ⟨by k_ne, h37b⟩⟩); (case yi => assumption); (case yb => assumption); (case yl => assumption); (case yn => exact Eq.refl (Nat.cast _)); (case y2 => omega); (case y3 => omega); (case yd => ktr_room); (case yu => ktr_units))
    intro v c' oc vc tc u2 hZ tkZ hv0 FZ NZ lZ lZ2 dZ1 dZ2
    k_lt lZ
    (try dsimp only)
    (try k_fold)
    k_steps
    refine hret' _ _ _ _ c' oc _ tc _ _ (by assumption) (cb_drop (by assumption) (by k_allIn)) (allLt_lt lZ.2.2 _ hcm) ?_ dZ1 dZ2
    omega
end

section
local macro_rules | `(tactic| walk_at "ite") => `(tactic| (k_here; k_openite; first | (refine ite_pos (by (simp only [beq_iff_eq, bne_iff_ne, decide_eq_true_eq]; omega)) ?_) | (refine ite_neg (by (simp only [beq_iff_eq, bne_iff_ne, decide_eq_true_eq]; omega)) ?_)))
local macro_rules | `(tactic| walk_at "call ref") => `(tactic| (k_here; refine Stop.out ?_))
set_option maxRecDepth 100000 in
set_option maxHeartbeats 8000000 in
theorem id_b {w : World} {loose : List Str} {mean : ExcName → Option Value} {mg mb : Str → Option Value} {dp un : Nat} {gd : Option (List Code)} {cn : Str} {cs : Scope} {a : Addr} {ccd : Value} {cl : List (Str × Addr)} {outer : List Env} {A₀ : Around} {base h₀ : Heap} {L : Addr} {m : Str → Option Value} {s : Shared} {Q E : Value → Shared → Prop} {news : List (Addr × Obj)} {x b : Int} {tx tb : Tok} :
   (Mine01.hd.heap_39 w.params).In h₀ → Below A₀ base outer h₀ → Fr h₀ L s.heap m → News h₀ L s.heap news → Top topProg loose mean mg mb h₀ → cs.kind = .function → CodeHd base 34 30 → CodeHd base 41 37 → GI news → GD news → 0 ≤ x → x < 2 ^ 40 → 0 < b → b < 2 ^ 30 → dp + 303 < recursionLimit → un + 3200 < cLine →
   (∀ T q t u h' tk', Fr h₀ L h' m → News h₀ L h' ((T, tup2 q t (x % b) u) :: news) → (∀ p ∈ news, p.1 < T) → Q (.ref T) { s with heap := h', toks := tk' }) →
   wpAny (model PySem.Challenge.rw_gy0003_01.row.prog w) (ktrTop dp un gd cn cs L a ccd cl outer) (call (.ref 56) [.int x tx, .int b tb]) Q E s := by
  k_fill
  intro X B F N T hk hC hC2 hGI hGD hx0 hx hb hb2 hd hu hret
  have hM := kstMark
  refine wpAny_call ?_
  k_dflt (refine' code_def ?k1 ?k2 ?k3 ?k4 ?k5 ?kA ?kF ?kK ?k6 ?k7 ?k8 ?k9 ?kB ?_ ?c2 ?c3 ?c4 ?c5; (case kA => exact rfl); (case kF => exact rfl); (case kK => assumption); (case k1 => k_asm); (case k2 => k_asm); (case k3 => k_asm); (case k4 => k_asm); (case k5 => k_asm); (case k6 => k_is); (case k7 => k_is); (case k8 => ktr_room); (case k9 => first | exact BindsTo.of_eq rfl | exact kp_binds (by k_in) (fun _ => rfl)); (case c5 => decide); (case kB => exact locs rfl); (case c2 => exact rfl); (case c3 => exact rfl); (case c4 => exact rfl); k_whole; intro g' L' h' FG' F' N' B' X' T'; (try dsimp only); (try k_lift B'); (try k_fold))
  k_steps
  refine Stop.intro ?_
  (k_dflt (refine' dp_b ?jX ?jB ?jF ?jN ?jT ?jhk ?jc1 ?jc2 ?jg1 ?jg2 ?ja ?jb ?jc ?jd ?jhd ?jhu ?_; (case jX => k_asm); (case jB => k_asm); (case jF => k_asm); (case jN => k_asm); (case jT => k_asm); (case jhk => first | exact rfl | assumption); (case jc1 => k_asm); (case jc2 => k_asm); (case jg1 => repeat (first | assumption | refine GI.cons ?_)); (case jg2 => repeat (first | assumption | refine GD.cons ?_)); (case ja => omega); (case jb => omega); (case jc => omega); (case jd => omega); (case jhd => ktr_room); (case jhu => ktr_units)); intro T9 q9 t9 u9 h9 tk9 F9 N9 l9; (try k_lt l9); (try dsimp only); (try k_fold))
  k_steps
  exact hret _ _ _ _ _ _ (by assumption) (by assumption) (by assumption)
end

/-! the tables, fresh or grown; where they lie in a ledger -/
def Tabs (l : List (Addr × Obj)) : Prop := l = [(37, tabObj #[]), (30, tabObj #[])] ∨ (GI l ∧ GD l)
def Apt (l news : List (Addr × Obj)) : Prop := ∀ q ∈ l, ∀ p ∈ news, @Ne Nat p.1 q.1
def Hled (f : List (Addr × Obj) → List (Addr × Obj)) : Prop := ∀ t : List (Addr × Obj), ∃ l : List (Addr × Obj), (∀ p : Addr × Obj, p ∈ f t ↔ p ∈ l ∨ p ∈ t) ∧ (∀ p : Addr × Obj, p ∈ f [] ↔ p ∈ l)
theorem Hled.nil : Hled (fun t => t) := fun _ => ⟨[], fun _ => by simp, fun _ => by simp⟩
theorem Hled.cons {a : Addr × Obj} {f : List (Addr × Obj) → List (Addr × Obj)} (h : Hled f) : Hled (fun t => a :: f t) := fun t => by
  obtain ⟨l, h1, h2⟩ := h t
  exact ⟨a :: l, fun p => by rw [List.mem_cons, List.mem_cons, h1, or_assoc], fun p => by rw [List.mem_cons, List.mem_cons, h2]⟩
theorem Hled.app {a : List (Addr × Obj)} {f : List (Addr × Obj) → List (Addr × Obj)} (h : Hled f) : Hled (fun t => a ++ f t) := fun t => by
  obtain ⟨l, h1, h2⟩ := h t
  exact ⟨a ++ l, fun p => by rw [List.mem_append, List.mem_append, h1, or_assoc], fun p => by rw [List.mem_append, List.mem_append, h2]⟩
theorem Hled.split {f : List (Addr × Obj) → List (Addr × Obj)} (h : Hled f) {t : List (Addr × Obj)} {p : Addr × Obj} (hp : p ∈ f t) : p ∈ f [] ∨ p ∈ t := by
  obtain ⟨l, h1, h2⟩ := h t
  exact ((h1 p).mp hp).imp (h2 p).mpr id
theorem Hled.base {f : List (Addr × Obj) → List (Addr × Obj)} (h : Hled f) {t : List (Addr × Obj)} {p : Addr × Obj} (hp : p ∈ f []) : p ∈ f t := by
  obtain ⟨l, h1, h2⟩ := h t
  exact (h1 p).mpr (.inl ((h2 p).mp hp))
theorem Hled.tabs {f : List (Addr × Obj) → List (Addr × Obj)} (h : Hled f) {t : List (Addr × Obj)} {p : Addr × Obj} (hp : p ∈ t) : p ∈ f t := by
  obtain ⟨l, h1, h2⟩ := h t
  exact (h1 p).mpr (.inr hp)
section
local macro_rules | `(tactic| walk_at "none other") => `(tactic| skip)
local macro_rules | `(tactic| walk_at "ite") => `(tactic| (k_here; k_openite; first | (refine ite_pos (by (simp only [beq_iff_eq, bne_iff_ne, decide_eq_true_eq]; omega)) ?_) | (refine ite_neg (by (simp only [beq_iff_eq, bne_iff_ne, decide_eq_true_eq]; omega)) ?_)))
local macro_rules | `(tactic| walk_at "call ref") => `(tactic| (k_here; refine Stop.out ?_))
set_option maxRecDepth 100000 in
set_option maxHeartbeats 8000000 in
theorem id_ff {w : World} {loose : List Str} {mean : ExcName → Option Value} {mg mb : Str → Option Value} {dp un : Nat} {gd : Option (List Code)} {cn : Str} {cs : Scope} {a : Addr} {ccd : Value} {cl : List (Str × Addr)} {outer : List Env} {A₀ : Around} {base h₀ : Heap} {L : Addr} {m : Str → Option Value} {s : Shared} {Q E : Value → Shared → Prop} {news : List (Addr × Obj)} {x b : Int} {tx tb : Tok} :
   (Mine01.hd.heap_39 w.params).In h₀ → Below A₀ base outer h₀ → Fr h₀ L s.heap m → News h₀ L s.heap ((37, tabObj #[]) :: (30, tabObj #[]) :: news) → Top topProg loose mean mg mb h₀ → cs.kind = .function → CodeHd base 34 30 → CodeHd base 41 37 → (∀ p ∈ news, p.1 ≠ 37) → (∀ p ∈ news, p.1 ≠ 30) → 0 ≤ x → x < 2 ^ 40 → 0 < b → b < 2 ^ 30 → dp + 303 < recursionLimit → un + 3200 < cLine →
   (∀ T q t u c' oc vc tc c₂ oc₂ vc₂ tc₂ h' tk', Fr h₀ L h' m → News h₀ L h' ((T, tup2 q t (x % b) u) :: (37, tabObj #[rawInt 47, rawInt 4, .ref c']) :: (c', oc) :: (30, tabObj #[rawInt 32, rawInt 4, .ref c₂]) :: (c₂, oc₂) :: news) → (∀ p ∈ news, p.1 < c₂) → @LT.lt Nat _ c₂ c' → @LT.lt Nat _ c' T → oc.data = .fields vc → vc[1]? = some (.str (Str.ofString "_digits2int.<locals>.inner") tc) → oc₂.data = .fields vc₂ → vc₂[1]? = some (.str (Str.ofString "_int2digits.<locals>.inner") tc₂) → Q (.ref T) { s with heap := h', toks := tk' }) →
   wpAny (model PySem.Challenge.rw_gy0003_01.row.prog w) (ktrTop dp un gd cn cs L a ccd cl outer) (call (.ref 56) [.int x tx, .int b tb]) Q E s := by
  k_fill
  intro X B F N T hk hC hC2 h37 h30 hx0 hx hb hb2 hd hu hret
  have hM := kstMark
  refine wpAny_call ?_
  k_dflt (refine' code_def ?k1 ?k2 ?k3 ?k4 ?k5 ?kA ?kF ?kK ?k6 ?k7 ?k8 ?k9 ?kB ?_ ?c2 ?c3 ?c4 ?c5; (case kA => exact rfl); (case kF => exact rfl); (case kK => assumption); (case k1 => k_asm); (case k2 => k_asm); (case k3 => k_asm); (case k4 => k_asm); (case k5 => k_asm); (case k6 => k_is); (case k7 => k_is); (case k8 => ktr_room); (case k9 => first | exact BindsTo.of_eq rfl | exact kp_binds (by k_in) (fun _ => rfl)); (case c5 => decide); (case kB => exact locs rfl); (case c2 => exact rfl); (case c3 => exact rfl); (case c4 => exact rfl); k_whole; intro g' L' h' FG' F' N' B' X' T'; (try dsimp only); (try k_lift B'); (try k_fold))
  k_steps
  refine Stop.intro ?_
  (k_dflt (refine' dp_ff ?jX ?jB ?jF ?jN ?jT ?jhk ?jc1 ?jc2 ?jg1 ?jg2 ?ja ?jb ?jc ?jd ?jhd ?jhu ?_; (case jX => k_asm); (case jB => k_asm); (case jF => k_asm); (case jN => k_asm); (case jT => k_asm); (case jhk => first | exact rfl | assumption); (case jc1 => k_asm); (case jc2 => k_asm); (case jg1 => assumption); (case jg2 => assumption); (case ja => omega); (case jb => omega); (case jc => omega); (case jd => omega); (case jhd => ktr_room); (case jhu => ktr_units)); intro T9 q9 t9 u9 c9 oc9 vc9 tc9 cb9 ob9 vb9 tb9 h9 tk9 F9 N9 la9 lb9 lc9 d9 e9 d8 e8; (try dsimp only); (try k_fold))
  k_steps
  exact hret _ _ _ _ _ _ _ _ _ _ _ _ _ _ (by assumption) (by assumption) (by assumption) (by assumption) (by assumption) (by assumption) (by assumption) (by assumption) (by assumption)
end
section
local macro_rules | `(tactic| k_allIn) => `(tactic| first | exact List.forall_mem_nil _ | (refine' List.forall_mem_cons.mpr (And.intro ?aI ?aR); (case aI => (repeat (first | with_reducible exact List.mem_cons_self | refine List.mem_cons_of_mem _ ?_))); (case aR => k_allIn)) | (intro p hp; (repeat (first | with_reducible exact hp | refine List.mem_cons_of_mem _ ?_)); done))
local macro_rules | `(tactic| walk_at "call ref") => `(tactic| (k_here; refine Stop.out ?_))
set_option maxRecDepth 100000 in
set_option maxHeartbeats 8000000 in
theorem la_ff {w : World} {loose : List Str} {mean : ExcName → Option Value} {mg mb : Str → Option Value} {dp un : Nat} {gd : Option (List Code)} {cn : Str} {cs : Scope} {a : Addr} {ccd : Value} {cl : List (Str × Addr)} {outer : List Env} {A₀ : Around} {base h₀ : Heap} {L : Addr} {m : Str → Option Value} {s : Shared} {Q E : Value → Shared → Prop} {news : List (Addr × Obj)} {r f n : Int} {tr tf tn : Tok} :
   (Mine01.hd.heap_39 w.params).In h₀ → Below A₀ base outer h₀ → Fr h₀ L s.heap m → News h₀ L s.heap ((37, tabObj #[]) :: (30, tabObj #[]) :: news) → Top topProg loose mean mg mb h₀ → cs.kind = .function → CodeHd base 34 30 → CodeHd base 41 37 → (∀ p ∈ news, p.1 ≠ 37) → (∀ p ∈ news, p.1 ≠ 30) → 0 ≤ r → r < 2 ^ 20 → 0 ≤ f → f < 2 → 0 < n → n < 2 ^ 20 → dp + 304 < recursionLimit → un + 3300 < cLine →
   (∀ t c' oc vc tc c₂ oc₂ vc₂ tc₂ h' tk', Fr h₀ L h' m → News h₀ L h' ((37, tabObj #[rawInt 47, rawInt 4, .ref c']) :: (c', oc) :: (30, tabObj #[rawInt 32, rawInt 4, .ref c₂]) :: (c₂, oc₂) :: news) → (∀ p ∈ news, p.1 < c₂) → @LT.lt Nat _ c₂ c' → oc.data = .fields vc → vc[1]? = some (.str (Str.ofString "_digits2int.<locals>.inner") tc) → oc₂.data = .fields vc₂ → vc₂[1]? = some (.str (Str.ofString "_int2digits.<locals>.inner") tc₂) → Q (.int ((2 * r + f) % n) t) { s with heap := h', toks := tk' }) →
   wpAny (model PySem.Challenge.rw_gy0003_01.row.prog w) (ktrTop dp un gd cn cs L a ccd cl outer) (call (.ref 81) [.int r tr, .int f tf, .int n tn]) Q E s := by
  k_fill
  intro X B F N T hk hC hC2 h37 h30 hr0 hr hf0 hf hn0 hn hd hu hret
  have hM := kstMark
  refine wpAny_call ?_
  k_dflt (refine' code_def ?k1 ?k2 ?k3 ?k4 ?k5 ?kA ?kF ?kK ?k6 ?k7 ?k8 ?k9 ?kB ?_ ?c2 ?c3 ?c4 ?c5; (case kA => exact rfl); (case kF => exact rfl); (case kK => assumption); (case k1 => k_asm); (case k2 => k_asm); (case k3 => k_asm); (case k4 => k_asm); (case k5 => k_asm); (case k6 => k_is); (case k7 => k_is); (case k8 => ktr_room); (case k9 => first | exact BindsTo.of_eq rfl | exact kp_binds (by k_in) (fun _ => rfl)); (case c5 => decide); (case kB => exact locs rfl); (case c2 => exact rfl); (case c3 => exact rfl); (case c4 => exact rfl); k_whole; intro g' L' h' FG' F' N' B' X' T'; (try dsimp only); (try k_lift B'); (try k_fold))
  k_steps
  refine Stop.intro ?_
  (k_dflt (refine' id_ff ?jX ?jB ?jF ?jN ?jT ?jhk ?jc1 ?jc2 ?jg1 ?jg2 ?ja ?jb ?jc ?jd ?jhd ?jhu ?_; (case jX => k_asm); (case jB => k_asm); (case jF => k_asm); (case jN => k_asm); (case jT => k_asm); (case jhk => first | exact rfl | assumption); (case jc1 => k_asm); (case jc2 => k_asm); (case jg1 => assumption); (case jg2 => assumption); (case ja => omega); (case jb => omega); (case jc => omega); (case jd => omega); (case jhd => ktr_room); (case jhu => ktr_units)); intro T9 q9 t9 u9 c9 oc9 vc9 tc9 cb9 ob9 vb9 tb9 h9 tk9 F9 N9 la9 lb9 lc9 d9 e9 d8 e8; (try dsimp only); (try k_fold))
  k_steps
  exact hret _ _ _ _ _ _ _ _ _ _ _ (by assumption) (cb_drop (by assumption) (by k_allIn)) (by assumption) (by assumption) (by assumption) (by assumption) (by assumption) (by assumption)
end
section
local macro_rules | `(tactic| walk_at "none other") => `(tactic| skip)
local macro_rules | `(tactic| k_allIn) => `(tactic| first | exact List.forall_mem_nil _ | (refine' List.forall_mem_cons.mpr (And.intro ?aI ?aR); (case aI => (repeat (first | with_reducible exact List.mem_cons_self | refine List.mem_cons_of_mem _ ?_))); (case aR => k_allIn)) | (intro p hp; (repeat (first | with_reducible exact hp | refine List.mem_cons_of_mem _ ?_)); done))
local macro_rules | `(tactic| walk_at "call ref") => `(tactic| (k_here; refine Stop.out ?_))
set_option maxRecDepth 100000 in
set_option maxHeartbeats 8000000 in
theorem la_g {w : World} {loose : List Str} {mean : ExcName → Option Value} {mg mb : Str → Option Value} {dp un : Nat} {gd : Option (List Code)} {cn : Str} {cs : Scope} {a : Addr} {ccd : Value} {cl : List (Str × Addr)} {outer : List Env} {A₀ : Around} {base h₀ : Heap} {L : Addr} {m : Str → Option Value} {s : Shared} {Q E : Value → Shared → Prop} {news : List (Addr × Obj)} {r f n : Int} {tr tf tn : Tok} :
   (Mine01.hd.heap_39 w.params).In h₀ → Below A₀ base outer h₀ → Fr h₀ L s.heap m → News h₀ L s.heap news → Top topProg loose mean mg mb h₀ → cs.kind = .function → CodeHd base 34 30 → CodeHd base 41 37 → GI news → GD news → 0 ≤ r → r < 2 ^ 20 → 0 ≤ f → f < 2 → 0 < n → n < 2 ^ 20 → dp + 304 < recursionLimit → un + 3300 < cLine →
   (∀ t h' tk', Fr h₀ L h' m → News h₀ L h' news → Q (.int ((2 * r + f) % n) t) { s with heap := h', toks := tk' }) →
   wpAny (model PySem.Challenge.rw_gy0003_01.row.prog w) (ktrTop dp un gd cn cs L a ccd cl outer) (call (.ref 81) [.int r tr, .int f tf, .int n tn]) Q E s := by
  k_fill
  intro X B F N T hk hC hC2 hGI hGD hr0 hr hf0 hf hn0 hn hd hu hret
  have hM := kstMark
  refine wpAny_call ?_
  k_dflt (refine' code_def ?k1 ?k2 ?k3 ?k4 ?k5 ?kA ?kF ?kK ?k6 ?k7 ?k8 ?k9 ?kB ?_ ?c2 ?c3 ?c4 ?c5; (case kA => exact rfl); (case kF => exact rfl); (case kK => assumption); (case k1 => k_asm); (case k2 => k_asm); (case k3 => k_asm); (case k4 => k_asm); (case k5 => k_asm); (case k6 => k_is); (case k7 => k_is); (case k8 => ktr_room); (case k9 => first | exact BindsTo.of_eq rfl | exact kp_binds (by k_in) (fun _ => rfl)); (case c5 => decide); (case kB => exact locs rfl); (case c2 => exact rfl); (case c3 => exact rfl); (case c4 => exact rfl); k_whole; intro g' L' h' FG' F' N' B' X' T'; (try dsimp only); (try k_lift B'); (try k_fold))
  k_steps
  refine Stop.intro ?_
  (k_dflt (refine' id_b ?jX ?jB ?jF ?jN ?jT ?jhk ?jc1 ?jc2 ?jg1 ?jg2 ?ja ?jb ?jc ?jd ?jhd ?jhu ?_; (case jX => k_asm); (case jB => k_asm); (case jF => k_asm); (case jN => k_asm); (case jT => k_asm); (case jhk => first | exact rfl | assumption); (case jc1 => k_asm); (case jc2 => k_asm); (case jg1 => repeat (first | assumption | refine GI.cons ?_)); (case jg2 => repeat (first | assumption | refine GD.cons ?_)); (case ja => omega); (case jb => omega); (case jc => omega); (case jd => omega); (case jhd => ktr_room); (case jhu => ktr_units)); intro T9 q9 t9 u9 h9 tk9 F9 N9 l9; (try k_lt l9); (try dsimp only); (try k_fold))
  k_steps
  exact hret _ _ _ (by assumption) (cb_drop (by assumption) (by k_allIn))
end
theorem la_t {w : World} {loose : List Str} {mean : ExcName → Option Value} {mg mb : Str → Option Value} {dp un : Nat} {gd : Option (List Code)} {cn : Str} {cs : Scope} {a : Addr} {ccd : Value} {cl : List (Str × Addr)} {outer : List Env} {A₀ : Around} {base h₀ : Heap} {L : Addr} {m : Str → Option Value} {s : Shared} {Q E : Value → Shared → Prop} {news : List (Addr × Obj)} {led : List (Addr × Obj) → List (Addr × Obj)} {tabs : List (Addr × Obj)} {r f n : Int} {tr tf tn : Tok}
   (X : (Mine01.hd.heap_39 w.params).In h₀) (B : Below A₀ base outer h₀) (F : Fr h₀ L s.heap m) (N : News h₀ L s.heap (led tabs)) (T : Top topProg loose mean mg mb h₀) (hk : cs.kind = .function) (hC : CodeHd base 34 30) (hC2 : CodeHd base 41 37)
   (hL : Hled led) (hT : Tabs tabs) (hA : Apt tabs (led [])) (hr0 : 0 ≤ r) (hr : r < 2 ^ 20) (hf0 : 0 ≤ f) (hf : f < 2) (hn0 : 0 < n) (hn : n < 2 ^ 20) (hd : dp + 304 < recursionLimit) (hu : un + 3300 < cLine)
   (h : ∀ tabs' t h' tk', GI tabs' → GD tabs' → Apt tabs' (led []) → Fr h₀ L h' m → News h₀ L h' (led tabs') → Q (.int ((2 * r + f) % n) t) { s with heap := h', toks := tk' }) :
   wpAny (model PySem.Challenge.rw_gy0003_01.row.prog w) (ktrTop dp un gd cn cs L a ccd cl outer) (call (.ref 81) [.int r tr, .int f tf, .int n tn]) Q E s := by
  rcases hT with rfl | ⟨gi, gd⟩
  · refine la_ff (news := led []) X B F (cb_drop N ?_) T hk hC hC2 ?_ ?_ hr0 hr hf0 hf hn0 hn hd hu ?_
    · intro p hp
      rcases List.mem_cons.mp hp with rfl | hp
      · exact hL.tabs (.head _)
      · rcases List.mem_cons.mp hp with rfl | hp
        · exact hL.tabs (.tail _ (.head _))
        · exact hL.base hp
    · exact fun p hp => hA _ (.head _) p hp
    · exact fun p hp => hA _ (.tail _ (.head _)) p hp
    · intro t c' oc vc tc c₂ oc₂ vc₂ tc₂ h' tk' F' N' l1 l2 d1 e1 d2 e2
      refine h [(37, tabObj #[rawInt 47, rawInt 4, .ref c']), (c', oc), (30, tabObj #[rawInt 32, rawInt 4, .ref c₂]), (c₂, oc₂)] t h' tk' ⟨c₂, oc₂, _, _, .tail _ (.tail _ (.head _)), .tail _ (.tail _ (.tail _ (.head _))), d2, e2⟩ ⟨c', oc, _, _, .head _, .tail _ (.head _), d1, e1⟩ ?_ F' (cb_drop N' ?_)
      · intro q hq p hp
        have hpc : @LT.lt Nat _ p.1 c₂ := l1 p hp
        rcases List.mem_cons.mp hq with rfl | hq
        · exact hA _ (.head _) p hp
        · rcases List.mem_cons.mp hq with rfl | hq
          · exact Nat.ne_of_lt (Nat.lt_trans hpc l2)
          · rcases List.mem_cons.mp hq with rfl | hq
            · exact hA _ (.tail _ (.head _)) p hp
            · rcases List.mem_cons.mp hq with rfl | hq
              · exact Nat.ne_of_lt hpc
              · cases hq
      · intro p hp
        rcases hL.split hp with hp | hp
        · exact .tail _ (.tail _ (.tail _ (.tail _ hp)))
        · rcases List.mem_cons.mp hp with rfl | hp
          · exact .head _
          · rcases List.mem_cons.mp hp with rfl | hp
            · exact .tail _ (.head _)
            · rcases List.mem_cons.mp hp with rfl | hp
              · exact .tail _ (.tail _ (.head _))
              · rcases List.mem_cons.mp hp with rfl | hp
                · exact .tail _ (.tail _ (.tail _ (.head _)))
                · cases hp
  · exact la_g X B F N T hk hC hC2 (gi.mono fun p hp => hL.tabs hp) (gd.mono fun p hp => hL.tabs hp) hr0 hr hf0 hf hn0 hn hd hu fun t h' tk' F' N' => h tabs t h' tk' gi gd hA F' N'

/-! comprehensions turn by turn, with an invariant, over the library's own -/
def CpEnd (h₀ : Heap) (L : Addr) (m : Str → Option Value) (s₁ : Shared) (I : Addr) (oI : Obj) (C : Addr) (oC : Obj) (D : Addr) (oD : Obj) (S : List (Addr × Obj) → Prop) (J : Value → List (Addr × Obj) → Prop) (y : Value) (s₂ : Shared) : Prop := LCg.CompEnd h₀ L m s₁ I oI C oC D oD S J y s₂
section
variable {prog : Program} {w : World} {A : Around} {s : Shared} {h₀ : Heap} {L : Addr} {m : Str → Option Value} {env : Env}
theorem CpEnd.put {σ : Type} {Led : σ → List (Addr × Obj)} {P : List Value → σ → Prop} {I C D : Addr} {oI oC oD : Obj} {S : List (Addr × Obj) → Prop} {s₁ : Shared} {h' : Heap} {tk : Nat} {all : List (Addr × Obj)} {ys : List Value} {y : Value} (c : σ)
    (F : Fr h₀ L h' m) (N : News h₀ L h' all) (sub : ∀ p ∈ (I, oI) :: (C, oC) :: (D, oD) :: Led c, p ∈ all) (off : ∀ p ∈ Led c, p.1 ≠ I ∧ p.1 ≠ C ∧ p.1 ≠ D) (hS : S (Led c)) (hP : P (ys ++ [y]) c) :
    CpEnd h₀ L m s₁ I oI C oC D oD S (fun y nx => ∃ c', nx = Led c' ∧ P (ys ++ [y]) c') y { s₁ with heap := h', toks := tk } :=
  LCg.CompEnd.intro F N (Led c) sub (LCg.Off3.of off) hS ⟨c, rfl, hP⟩
theorem cp_rest {σ : Type} {elt : PySem.Expr} {x : Str} {scope : Scope} {cl : List (Str × Addr)} {S : List (Addr × Obj) → Prop} {V : Nat → Value → Prop} {Fin : List Value → List (Addr × Obj) → Prop} {n : Nat} (Led : σ → List (Addr × Obj)) (P : Nat → List Value → σ → Prop)
    (turn : ∀ (c : σ) i ys v I oI C oC D m₂ h tk (E' : Value → Shared → Prop), i < n → V i v → P i ys c → LCg.NsObj oC m₂ → m₂ x = some v → Fr h₀ L h m → News h₀ L h ((I, oI) :: (C, oC) :: (D, LCg.lst ys) :: Led c) → (∀ p ∈ Led c, p.1 ≠ I ∧ p.1 ≠ C ∧ p.1 ≠ D) → ((@Ne Nat I C) ∧ (@Ne Nat I D) ∧ (@Ne Nat C D)) →
      wpAny (model prog w) A (eval elt (compEnvC scope cl C env)) (CpEnd h₀ L m { s with heap := h, toks := tk } I oI C oC D (LCg.lst ys) S (fun y nx => ∃ c', nx = Led c' ∧ P (i + 1) (ys ++ [y]) c')) E' { s with heap := h, toks := tk })
    (done : ∀ (c : σ) ys, P n ys c → Fin ys (Led c)) :
    ∀ (k i : Nat) (ys : List Value) (c : σ), i + k = n → P i ys c → LCg.CompRest prog w A h₀ L m env elt x scope cl s S V Fin k i ys (Led c) := by
  intro k
  induction k with
  | zero =>
    intro i ys c hi hP
    obtain rfl : i = n := by omega
    exact LCg.CompRest.zero (done c ys hP)
  | succ k ih =>
    intro i ys c hi hP
    refine LCg.CompRest.succ fun v I oI C oC D m₂ h tk E' hv hC hx F N off ne => wpAny_mono (turn c i ys v I oI C oC D m₂ h tk E' (by omega) hv hP hC hx F N (LCg.Off3.mem off) ne) (fun y s₂ p => ?_) fun _ _ e => e
    obtain ⟨h', tk', nx, e, F', N', o', S', c', rfl, hP'⟩ := p
    exact ⟨h', tk', Led c', e, F', N', o', S', ih (i + 1) _ c' (by omega) hP'⟩
end
theorem ints_snoc {ys : List Value} {ns : List Int} {y : Int} {t : Tok} (h : IntsAre ys ns) : IntsAre (ys ++ [.int y t]) (ns ++ [y]) := h.append (.cons y t .nil)
theorem ints_at {vs : List Value} {ns : List Int} {i : Nat} {v : Value} (h : IntsAre vs ns) (e : vs.toArray[i]? = some v) : ∃ n t, ns[i]? = some n ∧ v = .int n t := by
  have e' : vs[i]? = some v := by simpa using e
  have hlt : i < vs.length := by
    rcases Nat.lt_or_ge i vs.length with hl | hl
    · exact hl
    · rw [List.getElem?_eq_none hl] at e'; cases e'
  have hlt' : i < ns.length := by have := h.length; omega
  obtain ⟨t, hx⟩ := h.get i ns[i] (by simp [hlt'])
  rw [e'] at hx
  exact ⟨_, t, by simp [hlt'], Option.some.inj hx⟩
theorem index_my {prog : Program} {w : World} {A : Around} {E : Value → Shared → Prop} {s : Shared} {h₀ : Heap} {L l : Addr} {news : List (Addr × Obj)} {vs : List Value} {ns : List Int} {n : Nat} {k : Int} {t : Tok} {Q : Value → Shared → Prop} (N : News h₀ L s.heap news) (hm : (l, listOf vs.toArray n) ∈ news) (hi : IntsAre vs ns)
    (hz : ns.length < 2 ^ 20) (hk : k ∈ ns) (h : ∀ tk, Q (.int (ns.idxOf k : Nat) tk) { s with toks := s.toks + 1 }) :
    wpAny (model prog w) A (call (.builtin "list.index") [.ref l, .int k t]) Q E s := by
  have hlen := hi.length
  have hj : ns.idxOf k < ns.length := List.idxOf_lt_length_iff.mpr hk
  refine call_meets PySem.F.slot_list_index ⟨_, (N _ hm).1, rfl⟩ PySem.F.entry_list_index (PySem.F.args_list_index_2 _ _)
    (MeetsSeq.list_index l vs.toArray n (.int k t) (isInt k) (fun y hy => eq_isInt k t hi y (by simpa using hy)) (ns.idxOf k) (by simpa [hlen] using hj) (by omega) ?_ ?_) ⟨(N _ hm).1, h _⟩
  · show isInt k vs[ns.idxOf k] = true
    rw [isInt_at k hi _ (by omega) hj]
    simpa using List.getElem_idxOf hj
  · intro j hjs hlt
    show isInt k vs[j] = false
    rw [isInt_at k hi j (by simpa using hjs) (by omega)]
    exact ne_of_lt_idxOf hlt _
theorem sorted_my {prog : Program} {w : World} {A : Around} {E : Value → Shared → Prop} {s : Shared} {h₀ : Heap} {L l : Addr} {m : Str → Option Value} {news : List (Addr × Obj)} {vs : List Value} {ns tgt : List Int} {n : Nat} {Q : Value → Shared → Prop} (F : Fr h₀ L s.heap m) (N : News h₀ L s.heap news) (hm : (l, listOf vs.toArray n) ∈ news) (hi : IntsAre vs ns)
    (hz : ns.length < 64) (hp : ns.Perm tgt) (ho : tgt.Pairwise (· ≤ ·)) (h : ∀ D vs' c h', Fr h₀ L h' m → News h₀ L h' ((D, listOf vs'.toArray c) :: news) → (∀ q ∈ news, q.1 < D) → IntsAre vs' tgt → Q (.ref D) { s with heap := h' }) :
    wpAny (model prog w) A (call (.builtin "sorted") [.ref l]) Q E s :=
  kso_sorted F N (News.isList N hm) hi hz fun D vs' ns' c h' F' N' l1 hi' _ p o _ => h D vs' c h' F' N' l1 (by
    have := ksm_same (p.trans hp) o ho
    rw [← this]; exact hi')
theorem rangeKs_sorted (a : Int) : ∀ n : Nat, (rangeKs a n).Pairwise (· ≤ ·) := by
  intro n
  unfold rangeKs
  rw [List.pairwise_map]
  exact List.Pairwise.imp (fun h => by omega) List.pairwise_lt_range
theorem ne_my {prog : Program} {w : World} {A : Around} {E : Value → Shared → Prop} {s : Shared} {h₀ : Heap} {L a b : Addr} {news : List (Addr × Obj)} {vs us : List Value} {ns ms : List Int} {c d : Nat} {Q : Value → Shared → Prop} (N : News h₀ L s.heap news) (ha : (a, listOf vs.toArray c) ∈ news) (hb : (b, listOf us.toArray d) ∈ news) (hi : IntsAre vs ns) (hj : IntsAre us ms) (hu : A.units + 64 < cLine) (e : ns = ms)
    (h : Q (.bool false) s) : wpAny (model prog w) A (compareOp .NotEq (.ref a) (.ref b)) Q E s :=
  ne_intsK (News.isList N ha) hi (News.isList N hb) hj hu (by simpa [e] using h)
theorem list_range_my {prog : Program} {w : World} {A : Around} {E : Value → Shared → Prop} {s : Shared} {h₀ : Heap} {L r : Addr} {m : Str → Option Value} {news : List (Addr × Obj)} {a b : Int} {t₀ u₀ v₀ : Tok} {n : Nat} {Q : Value → Shared → Prop} (hh : A.handled = none) (F : Fr h₀ L s.heap m) (N : News h₀ L s.heap news) (hr : IsRange s.heap r a b 1 t₀ u₀ v₀) (h1 : -1000 ≤ a) (h2 : a ≤ b) (h3 : b ≤ 1000) (e : (b - a).toNat = n)
    (h : ∀ D us c h' tk, Fr h₀ L h' m → News h₀ L h' ((D, listOf (List.toArray us) c) :: news) → (∀ p ∈ news, p.1 < D) → IntsAre us (rangeKs a n) → Q (.ref D) { s with heap := h', toks := tk }) :
    wpAny (model prog w) A (call (.type "list") [.ref r]) Q E s :=
  kll_range hh F N hr (small_one (by omega) (by omega) (by omega) (by omega)) ((rangeSize_nat _ _).trans (by rw [e])) (by omega) h

/-! lists of triples of ints -/
abbrev Trip := Int × Int × Int
noncomputable def tD (t : Trip) : Dat := .tuple [.int t.1, .int t.2.1, .int t.2.2]
theorem tD_inj {a b : Trip} (h : tD a = tD b) : a = b := by
  obtain ⟨a1, a2, a3⟩ := a
  obtain ⟨b1, b2, b3⟩ := b
  simp only [tD, Dat.tuple.injEq, List.cons.injEq, Dat.int.injEq, and_true] at h
  obtain ⟨rfl, rfl, rfl⟩ := h
  rfl
theorem tD_ok (n : Nat) (t : Trip) : kqdOk (n + 1) (tD t) = true := by simp [tD, kqdOk]
theorem tDs_ok {ts : List Trip} : ∀ d ∈ ts.map tD, kqdOk 8 d = true := fun d hd => by
  obtain ⟨t, _, rfl⟩ := List.mem_map.mp hd
  exact tD_ok 7 t
theorem tD_mem {t : Trip} {ts : List Trip} : tD t ∈ ts.map tD ↔ t ∈ ts := by
  rw [List.mem_map]
  exact ⟨fun ⟨u, hu, e⟩ => tD_inj e ▸ hu, fun h => ⟨t, h, rfl⟩⟩
theorem kqdPs_map : ∀ l : List Dat, kqdPs l = l.map kqdP
  | [] => rfl
  | d :: l => by rw [kqdPs, kqdPs_map l, List.map_cons]
theorem tD_in {T : Addr} {t : Trip} {a b c : Tok} {k : Nat} {news : List (Addr × Obj)} (h : (T, ({ cls := .type "tuple", data := .seq #[.int t.1 a, .int t.2.1 b, .int t.2.2 c] k } : Obj)) ∈ news) : DatIn news (.ref T) (tD t) :=
  .tuple (vs := [.int t.1 a, .int t.2.1 b, .int t.2.2 c]) h (.cons (.int _ _) (.cons (.int _ _) (.cons (.int _ _) .nil)))
section
variable {prog : Program} {w : World} {A : Around} {E : Value → Shared → Prop} {s : Shared} {h₀ : Heap} {L l a b : Addr} {m : Str → Option Value} {news n₁ n₂ : List (Addr × Obj)} {vs ws : List Value} {ts us : List Trip} {x : Value} {t : Trip} {n n' : Nat} {Q : Value → Shared → Prop}
theorem notin_trip {c : Bool} (N : News h₀ L s.heap news) (hm : (l, listOf vs.toArray n) ∈ news) (D : DatAll n₁ vs (ts.map tD)) (sa : ∀ p ∈ n₁, p ∈ news) (Dx : DatIn n₁ x (tD t)) (hu : A.units + 64 < cLine) (hc : decide (t ∈ ts) = !c)
    (h : Q (.bool c) s) : wpAny (model prog w) A (compareOp .NotIn x (.ref l)) Q E s := by
  refine kqd_notIn N hm rfl rfl D sa Dx sa tDs_ok (tD_ok 7 t) hu ?_
  have e : ∀ inst : Decidable (tD t ∈ ts.map tD), (!@decide (tD t ∈ ts.map tD) inst) = c := fun inst => by
    cases c with
    | true =>
      have : ¬ tD t ∈ ts.map tD := fun q => by rw [decide_eq_true (tD_mem.mp q)] at hc; cases hc
      rw [decide_eq_false this]; rfl
    | false =>
      have : tD t ∈ ts.map tD := tD_mem.mpr (by simpa using hc)
      rw [decide_eq_true this]; rfl
  rw [e]; exact h
theorem index_trip (N : News h₀ L s.heap news) (hm : (l, listOf vs.toArray n) ∈ news) (D : DatAll n₁ vs (ts.map tD)) (sa : ∀ p ∈ n₁, p ∈ news) (Dx : DatIn n₁ x (tD t)) (hu : A.units + 64 < cLine) (hz : ts.length < 2 ^ 20) (ht : t ∈ ts)
    (h : ∀ tk, Q (.int (ts.idxOf t : Nat) tk) { s with toks := s.toks + 1 }) : wpAny (model prog w) A (call (.builtin "list.index") [.ref l, x]) Q E s := by
  obtain ⟨as, rs⟩ := kqd_all N 8 (D.mono sa) tDs_ok
  obtain ⟨bs, rx⟩ := kqd_in N 8 (Dx.mono sa) (tD_ok 7 t)
  have l1 := kqd_layL (ds := ts.map tD) tDs_ok
  have l2 := kqd_lay 8 (tD t) (tD_ok 7 t)
  have hlen : vs.length = ts.length := by rw [D.length, List.length_map]
  have hmap := SeqAt.readsAll_map _ _ _ l1.1 rs
  rw [kqdPs_map, List.map_map] at hmap
  have hat : ∀ i (h1 : i < vs.length) (h2 : i < ts.length), SeqAt.readOf s.heap vs[i] = kqdP (tD ts[i]) := fun i h1 h2 => by
    have := congrArg (fun l : List PyData => l[i]?) hmap
    simpa [h1, h2] using this
  have hj : ts.idxOf t < ts.length := List.idxOf_lt_length_iff.mpr ht
  have hty : s.TypeIs (.ref l) "list" := ⟨_, (N _ hm).1, rfl⟩
  refine call_meets PySem.F.slot_list_index hty PySem.F.entry_list_index (PySem.F.args_list_index_2 _ _)
    (SeqAt.list_indexAt l vs.toArray n none #[] x (fun y => PyData.eqv (SeqAt.readOf s.heap y) (kqdP (tD t))) (ts.idxOf t) (by simp; omega) (by omega) ?_ ?_) ⟨(N _ hm).1, ?_, h _⟩
  · show PyData.eqv (SeqAt.readOf s.heap vs[ts.idxOf t]) (kqdP (tD t)) = true
    rw [hat _ (by omega) hj, List.getElem_idxOf hj]
    exact (kqd_eqv 8 _ _ 8 (tD_ok 7 t) (tD_ok 7 t)).mpr rfl
  · intro i hi hlt
    have hi' : i < vs.length := by simpa using hi
    show PyData.eqv (SeqAt.readOf s.heap vs[i]) (kqdP (tD t)) = false
    rw [hat i hi' (by omega)]
    refine Bool.eq_false_iff.mpr fun q => ?_
    have e := tD_inj ((kqd_eqv 8 _ _ 8 (tD_ok 7 _) (tD_ok 7 t)).mp q)
    have hf := List.not_of_lt_findIdx (p := fun y => y == t) (xs := ts) (i := i) hlt
    rw [e] at hf
    simp at hf
  · refine SeqAt.items_eqAt (by simpa using rs) rx l1.1 l2.1 ?_
    have := Nat.min_le_right (PyData.depthAll (kqdPs (ts.map tD))) (kqdP (tD t)).depth
    have := l2.2
    omega
theorem cat_any (F : Fr h₀ L s.heap m) (N : News h₀ L s.heap news) (ha : (a, listOf vs.toArray n) ∈ news) (hb : (b, listOf ws.toArray n') ∈ news) (hz : vs.length < 2 ^ 20) (hz2 : ws.length < 2 ^ 20)
    (h : ∀ D h', Fr h₀ L h' m → News h₀ L h' ((D, listOf (vs ++ ws).toArray 0) :: news) → (∀ p ∈ news, p.1 < D) → Q (.ref D) { s with heap := h' }) : wpAny (model prog w) A (binaryOp .Add (.ref a) (.ref b)) Q E s :=
  kmk_add_lit F N (News.isList N ha) (News.isList N hb) (by simp) h (by rw [sizeLine_eq]; simp; omega)
end
/-! a loop over a list of whatever -/
section
variable {prog : Program} {w : World} {A : Around} {E : Value → Shared → Prop} {s : Shared} {env : Env} {h₀ : Heap} {x : Str} {body : List Stmt} {Q : Flow → Shared → Prop}
theorem lp_anyRest {σ : Type} {I : Addr} {lp : Addr × Obj} {vs : List Value} {m₀ : Str → Option Value} (Led : σ → List (Addr × Obj)) (ps : σ → List (Str × Value)) (stored : List Str) (P : Nat → σ → Prop)
    (turn : ∀ (c : σ) it i v (u : Str → Option Value) h tk, vs[i]? = some v → P i c → lp ∈ Led c → (∀ p ∈ Led c, p.1 ≠ I) →
      Fr h₀ env.locals h (fun y => if y = x then some v else kstB (fun z => if stored.contains z then u z else m₀ z) (ps c) y) → News h₀ env.locals h ((I, it) :: Led c) →
      wpAny (model prog w) A (execs body env) (LpPost h₀ env.locals { s with heap := h, toks := tk } I it (fun m nx => lp ∈ nx ∧ LpJ Led ps x stored m₀ (P (i + 1)) m nx) Q) E { s with heap := h, toks := tk })
    (done : ∀ (c : σ) (u : Str → Option Value) h tk, P vs.length c → Fr h₀ env.locals h (fun y => if y = x then u y else kstB (fun z => if stored.contains z then u z else m₀ z) (ps c) y) → News h₀ env.locals h (Led c) → Q .next { s with heap := h, toks := tk }) :
    ∀ (r : List Value) (i : Nat) (m : Str → Option Value) (nx : List (Addr × Obj)), r = vs.drop i → i ≤ vs.length → lp ∈ nx → (∀ p ∈ nx, p.1 ≠ I) → LpJ Led ps x stored m₀ (P i) m nx → ListRest prog w A E h₀ env x body Q s I lp r m nx := by
  intro r
  induction r with
  | nil =>
    rintro i m nx hr hi' _ _ ⟨c, rfl, hP, h1, h2⟩
    have hlen : vs.length ≤ i := by
      have := congrArg List.length hr
      rw [List.length_drop] at this
      simp at this
      omega
    obtain rfl : i = vs.length := by omega
    exact ListRest.zero fun h tk F N => done c m h tk hP (kst_frOut h1 h2 F) N
  | cons v r ih =>
    rintro i m nx hr hi' hlp hoff ⟨c, rfl, hP, h1, h2⟩
    have hlt : i < vs.length := by
      have := congrArg List.length hr
      rw [List.length_drop, List.length_cons] at this
      omega
    rw [List.drop_eq_getElem_cons hlt] at hr
    obtain ⟨hv, hr'⟩ := List.cons.inj hr
    refine ListRest.succ fun it h tk _ F N => wpAny_mono (turn c it i v m h tk (by rw [hv]; simp [hlt]) hP hlp hoff (kst_fr h1 h2 F) N) (fun f s₂ p => ?_) fun _ _ e => e
    have fin : UnrEnd h₀ env.locals { s with heap := h, toks := tk } I it (fun m nx => lp ∈ nx ∧ LpJ Led ps x stored m₀ (P (i + 1)) m nx) s₂ →
        UnrEnd h₀ env.locals { s with heap := h, toks := tk } I it (fun m' n' => lp ∈ n' ∧ ListRest prog w A E h₀ env x body Q s I lp r m' n') s₂ := by
      rintro ⟨h', tk', m', nx', e, F', N', ho, hl, r⟩
      exact ⟨h', tk', m', nx', e, F', N', ho, hl, ih (i + 1) m' nx' hr' hlt hl ho r⟩
    cases f with
    | ret v => exact p
    | brk => exact p
    | next => exact fin p
    | cont => exact fin p
theorem lp_any {σ : Type} {ax : Addr} {vs : List Value} {nn : Nat} {m₀ : Str → Option Value} (Led : σ → List (Addr × Obj)) (ps : σ → List (Str × Value)) (stored : List Str) (P : Nat → σ → Prop) (c₀ : σ)
    (hh : A.handled = none) (hm : (ax, listOf vs.toArray nn) ∈ Led c₀) (F : Fr h₀ env.locals s.heap m₀) (N : News h₀ env.locals s.heap (Led c₀)) (hk : ∀ p ∈ ps c₀, m₀ p.1 = some p.2) (hp : P 0 c₀)
    (turn : ∀ (c : σ) I it i v (u : Str → Option Value) h tk, vs[i]? = some v → P i c → (ax, listOf vs.toArray nn) ∈ Led c → (∀ p ∈ Led c, p.1 ≠ I) →
      Fr h₀ env.locals h (fun y => if y = x then some v else kstB (fun z => if stored.contains z then u z else m₀ z) (ps c) y) → News h₀ env.locals h ((I, it) :: Led c) →
      wpAny (model prog w) A (execs body env) (LpPost h₀ env.locals { s with heap := h, toks := tk } I it (fun m nx => (ax, listOf vs.toArray nn) ∈ nx ∧ LpJ Led ps x stored m₀ (P (i + 1)) m nx) Q) E { s with heap := h, toks := tk })
    (done : ∀ (c : σ) (u : Str → Option Value) h tk, P vs.length c → Fr h₀ env.locals h (fun y => if y = x then u y else kstB (fun z => if stored.contains z then u z else m₀ z) (ps c) y) → News h₀ env.locals h (Led c) → Q .next { s with heap := h, toks := tk }) :
    wpAny (model prog w) A (pyIter (.ref ax)) (fun it s₂ => LoopAtV prog w A h₀ env x body Q E it s₂) E s :=
  iter_listUnr hh F N hm rfl rfl fun I hI => lp_anyRest Led ps stored P (fun c it => turn c I it) done vs 0 m₀ (Led c₀) rfl (Nat.zero_le _) hm (fun p hp => Nat.ne_of_lt (hI p hp)) ⟨c₀, rfl, hp, hk, fun _ _ _ _ => rfl⟩
end
theorem name_cells {h₀ h : Heap} {L a b c : Addr} {oa ob oc : Obj} {tl : List (Addr × Obj)} {P : Prop} (N : News h₀ L h ((a, oa) :: (b, ob) :: (c, oc) :: tl)) (k : ∀ (a' b' c' : Addr) (oa' ob' oc' : Obj), a' = a → b' = b → c' = c → oa' = oa → ob' = ob → oc' = oc → P) : P := k _ _ _ _ _ _ rfl rfl rfl rfl rfl rfl
/-! plain: the kinds, turn by turn -/
noncomputable def zeroF (n : Nat) : List Int := (rangeKs 0 n).map fun r => if r = 0 then 1 else 0
noncomputable def rowOf (ks : List Int) (n r : Int) : Trip := (ks.getD r.toNat 0, ks.getD ((2 * r + 0) % n).toNat 0, ks.getD ((2 * r + 1) % n).toNat 0)
noncomputable def rowsOf (ks : List Int) (n : Nat) : List Trip := (rangeKs 0 n).map (rowOf ks n)
noncomputable def addNew (k : List Trip) (r : Trip) : List Trip := if r ∈ k then k else k ++ [r]
noncomputable def knownOf (rows : List Trip) : List Trip := rows.foldl addNew []
noncomputable def nextK (n : Nat) (ks : List Int) : List Int := (rowsOf ks n).map fun r => (((knownOf (rowsOf ks n)).idxOf r : Nat) : Int)
noncomputable def kindsT (n : Nat) : Nat → List Int
  | 0 => zeroF n
  | t + 1 => nextK n (kindsT n t)
noncomputable def kindsF (n : Nat) : List Int := kindsT n (n + 1)
theorem rangeKs_succ {a : Int} {n : Nat} : rangeKs a (n + 1) = rangeKs a n ++ [a + (n : Int)] := by simp [rangeKs, List.range_succ]
theorem kindsT_len (n : Nat) : ∀ t, (kindsT n t).length = n
  | 0 => by rw [kindsT, zeroF, List.length_map, rangeKs_length]
  | t + 1 => by rw [kindsT, nextK, List.length_map, rowsOf, List.length_map, rangeKs_length]
theorem rowsOf_len (ks : List Int) (n : Nat) : (rowsOf ks n).length = n := by rw [rowsOf, List.length_map, rangeKs_length]
theorem addNew_len (k : List Trip) (r : Trip) : (addNew k r).length ≤ k.length + 1 := by
  unfold addNew; split
  · omega
  · rw [List.length_append]; exact Nat.le_refl _
theorem foldNew_len : ∀ (rows k : List Trip), (rows.foldl addNew k).length ≤ k.length + rows.length
  | [], _ => by simp
  | r :: rows, k => by
    rw [List.foldl_cons, List.length_cons]
    have := foldNew_len rows (addNew k r)
    have := addNew_len k r
    omega
theorem knownOf_len (rows : List Trip) : (knownOf rows).length ≤ rows.length := by
  have := foldNew_len rows []
  simpa [knownOf] using this
theorem addNew_mem {k : List Trip} {r x : Trip} : x ∈ addNew k r ↔ x ∈ k ∨ x = r := by
  unfold addNew; split
  · rename_i h
    exact ⟨.inl, fun q => q.elim id fun e => e ▸ h⟩
  · rw [List.mem_append, List.mem_singleton]
theorem foldNew_mem : ∀ {rows k : List Trip} {x : Trip}, x ∈ rows.foldl addNew k ↔ x ∈ k ∨ x ∈ rows
  | [], _, _ => by simp
  | r :: rows, k, x => by rw [List.foldl_cons, foldNew_mem, addNew_mem, List.mem_cons, or_assoc]
theorem knownOf_mem {rows : List Trip} {x : Trip} : x ∈ knownOf rows ↔ x ∈ rows := by
  rw [knownOf, foldNew_mem]; simp

def Far (t : List (Addr × Obj)) (a : Addr) : Prop := ∀ q ∈ t, @Ne Nat a q.1
theorem Apt.cons {t l : List (Addr × Obj)} {a : Addr} {o : Obj} (h : Far t a) (k : Apt t l) : Apt t ((a, o) :: l) := fun q hq p hp => by
  rcases List.mem_cons.mp hp with rfl | hp
  · exact h q hq
  · exact k q hq p hp
theorem Apt.hd {t l : List (Addr × Obj)} {a : Addr} {o : Obj} (h : Apt t ((a, o) :: l)) : Far t a := fun q hq => h q hq _ (.head _)
theorem Apt.tl {t l : List (Addr × Obj)} {p : Addr × Obj} (h : Apt t (p :: l)) : Apt t l := fun q hq r hr => h q hq r (.tail _ hr)
theorem Apt.app {t l l' : List (Addr × Obj)} (h : Apt t l) (k : Apt t l') : Apt t (l ++ l') := fun q hq p hp => (List.mem_append.mp hp).elim (h q hq p) (k q hq p)
theorem Apt.left {t l l' : List (Addr × Obj)} (h : Apt t (l ++ l')) : Apt t l := fun q hq p hp => h q hq p (List.mem_append_left _ hp)
theorem Apt.right {t l l' : List (Addr × Obj)} (h : Apt t (l ++ l')) : Apt t l' := fun q hq p hp => h q hq p (List.mem_append_right _ hp)
theorem Far.of {t l : List (Addr × Obj)} {a : Addr} (h : ∀ p ∈ l, @Ne Nat p.1 a) (s : ∀ p ∈ t, p ∈ l) : Far t a := fun q hq => Ne.symm (h q (s q hq))
theorem Far.ne {t : List (Addr × Obj)} {a : Addr} (h : Far t a) : ∀ p ∈ t, p.1 ≠ a := fun p hp => Ne.symm (h p hp)
theorem Far.cons {t : List (Addr × Obj)} {p : Addr × Obj} {a : Addr} (h : @Ne Nat a p.1) (k : Far t a) : Far (p :: t) a := fun q hq => by
  rcases List.mem_cons.mp hq with rfl | hq
  · exact h
  · exact k q hq
theorem far_led {led : List (Addr × Obj) → List (Addr × Obj)} (hL : Hled led) {t : List (Addr × Obj)} {a : Addr} (h : Far (led []) a) (k : Far t a) : Far (led t) a := fun q hq => (hL.split hq).elim (h q) (k q)
theorem far_app {t t' : List (Addr × Obj)} {a : Addr} (h : Far t a) (k : Far t' a) : Far (t ++ t') a := fun q hq => (List.mem_append.mp hq).elim (h q) (k q)
theorem off1_ne {D : Addr} : ∀ {l : List (Addr × Obj)}, LCg.Off1 D l → ∀ p ∈ l, @Ne Nat p.1 D
  | [], _, _, h => nomatch h
  | _ :: _, x, p, h => by
    rcases List.mem_cons.mp h with rfl | h
    · exact x.1
    · exact off1_ne x.2 p h
theorem name_third {h₀ h : Heap} {L z a b : Addr} {oz oa ob : Obj} {tl : List (Addr × Obj)} {P : Prop} (N : News h₀ L h ((z, oz) :: (a, oa) :: (b, ob) :: tl)) (k : ∀ ob' : Obj, ob' = ob → P) : P := k _ rfl
theorem name_tup {h₀ h : Heap} {L T : Addr} {a b c : Int} {ta tb tc : Tok} {tl : List (Addr × Obj)} {P : Prop} (N : News h₀ L h ((T, ({ cls := .type "tuple", data := .seq #[.int a ta, .int b tb, .int c tc] } : Obj)) :: tl)) (k : ∀ (T' : Addr) (o : Obj), T' = T → News h₀ L h ((T', o) :: tl) → (∀ l, (T', o) ∈ l → DatIn l (.ref T') (tD (a, b, c))) → P) : P :=
  k T _ rfl N fun l hm => tD_in (t := (a, b, c)) hm
theorem name_known {h₀ h : Heap} {L K D I E F : Addr} {oK oD oI oE oF : Obj} {tl : List (Addr × Obj)} {P : Prop} (N : News h₀ L h ((K, oK) :: (D, oD) :: (I, oI) :: (E, oE) :: (F, oF) :: tl)) (k : ∀ (K' : Addr) (o : Obj), K' = K → o = oF → P) : P := k _ _ rfl rfl
theorem tD_ref {l : List (Addr × Obj)} {v : Value} {t : Trip} (h : DatIn l v (tD t)) : ∃ a, v = .ref a := by
  unfold tD at h
  cases h with
  | tuple hm _ => exact ⟨_, rfl⟩
theorem take_snoc' {α : Type} {ns : List α} {i : Nat} {n : α} (h : ns[i]? = some n) : ns.take (i + 1) = ns.take i ++ [n] := by simp [List.take_add_one, h]
theorem name_end {h₀ h : Heap} {L D F : Addr} {oD oF : Obj} {p2 p3 p4 p5 p6 p7 : Addr × Obj} {tl : List (Addr × Obj)} {P : Prop} (N : News h₀ L h ((D, oD) :: p2 :: p3 :: p4 :: p5 :: p6 :: p7 :: (F, oF) :: tl)) (k : ∀ (D' : Addr) (o : Obj), D' = D → o = oF → P) : P := k _ _ rfl rfl
theorem name_sev {h₀ h : Heap} {L F : Addr} {oF : Obj} {p1 p2 p3 p4 p5 p6 : Addr × Obj} {tl : List (Addr × Obj)} {P : Prop} (N : News h₀ L h (p1 :: p2 :: p3 :: p4 :: p5 :: p6 :: (F, oF) :: tl)) (k : ∀ (o : Obj), o = oF → P) : P := k _ rfl
structure KA where
  D : Addr
  v : List Value
  c : Nat
  oN : Obj
structure KS where
  D : Addr
  v : List Value
  c : Nat
  oN : Obj
  oK : Obj
  t : List (Addr × Obj)
section
local macro_rules | `(tactic| k_ne) => `(tactic| ((try dsimp only); first | with_reducible assumption | (refine Ne.symm ?_; with_reducible assumption)))
local macro_rules | `(tactic| k_memK) => `(tactic| first | exact List.Mem.head _ | (refine List.Mem.tail _ ?_; k_memK) | assumption)
local macro_rules | `(tactic| k_mem) => `(tactic| first | exact List.Mem.head _ | (refine List.Mem.tail _ ?_; k_mem) | assumption)
local macro_rules | `(tactic| k_all) => `(tactic| first | assumption | exact List.forall_mem_nil _ | (refine' List.forall_mem_cons.mpr ⟨?a, ?b⟩; (case a => first | k_ne | assumption); (case b => k_all)))
local macro_rules | `(tactic| k_updF) => `(tactic| first | assumption | (refine' UpdF.head ?a; (case a => k_all)) | (refine' UpdF.tail ?a ?b; (case a => first | assumption | k_ne); (case b => k_updF)))
local macro_rules | `(tactic| k_allIn) => `(tactic| first | exact List.forall_mem_nil _ | (refine' List.forall_mem_cons.mpr (And.intro ?aI ?aR); (case aI => (repeat (first | with_reducible exact List.mem_cons_self | refine List.mem_cons_of_mem _ ?_))); (case aR => k_allIn)) | (intro p hp; (repeat (first | with_reducible exact hp | refine List.mem_cons_of_mem _ ?_)); done))
local macro_rules | `(tactic| walk_at "exec For Name Call cons nil") => `(tactic| (k_here; (rename Fr _ _ _ _ => lF'); (with_unfolding_all refine' For_invVF lF' ?k1 ?k2 ?_; (case k1 | k2 => exact rfl); k_whole)))
local macro_rules | `(tactic| walk_at "exec For Name Name cons nil") => `(tactic| (k_here; (rename Fr _ _ _ _ => lF'); (with_unfolding_all refine' For_invVF lF' ?k1 ?k2 ?_; (case k1 | k2 => exact rfl); k_whole)))
local macro_rules | `(tactic| walk_at "pyIter ref") => `(tactic| (k_here; refine Stop.out ?_))
local macro_rules | `(tactic| walk_at "subscriptTail") => `(tactic| (k_here; (with_reducible show wpAny _ _ (subscriptTail _ _ (Value.ref _) (Value.int _ _)) _ _ _); k_dflt (refine' ksa_sub ?k1 ?k2 ?k3 ?k4 ?k5 ?k6 ?_ ?k7; (case k1 => k_asm); (case k2 => k_mem); (case k3 => assumption); (case k4 | k5 | k6 => omega); (case k7 => with_unfolding_all rfl)); intro t9))
local macro_rules | `(tactic| walk_at "compareOp NotIn") => `(tactic| (k_here; refine Stop.out ?_))
local macro_rules | `(tactic| walk_at "binaryOp Add ref ref") => `(tactic| (k_here; refine Stop.out ?_))
local macro_rules | `(tactic| walk_at "call builtin:list.index") => `(tactic| (k_here; refine Stop.out ?_))
local macro_rules | `(tactic| walk_at "CompSrc") => `(tactic| (k_here; refine Stop.out ?_))
local macro_rules | `(tactic| walk_at "call ref") => `(tactic| (k_here; refine Stop.out ?_))
set_option maxRecDepth 100000 in
set_option maxHeartbeats 8000000 in
theorem kk_c {w : World} {loose : List Str} {mean : ExcName → Option Value} {mg mb : Str → Option Value} {dp un : Nat} {gd : Option (List Code)} {cn : Str} {cs : Scope} {a : Addr} {ccd : Value} {cl : List (Str × Addr)} {outer : List Env} {A₀ : Around} {base h₀ : Heap} {L : Addr} {m : Str → Option Value} {s : Shared} {Q E : Value → Shared → Prop} {news : List (Addr × Obj)} {led : List (Addr × Obj) → List (Addr × Obj)} {tabs : List (Addr × Obj)} {n : Nat} {tn : Tok}
   (X : (Mine01.hd.heap_39 w.params).In h₀) (B : Below A₀ base outer h₀) (F : Fr h₀ L s.heap m) (N : News h₀ L s.heap (led tabs)) (T : Top topProg loose mean mg mb h₀) (hk : cs.kind = .function) (hC : CodeHd base 34 30) (hC2 : CodeHd base 41 37)
   (hL : Hled led) (hT : Tabs tabs) (hA : Apt tabs (led [])) (hn0 : 1 ≤ n) (hn : n < 100) (hd : dp + 310 < recursionLimit) (hu : un + 4000 < cLine)
   (h : ∀ D vs' cap tabs' h' tk', IntsAre vs' (kindsF n) → GI tabs' → GD tabs' → Apt tabs' (led []) → Fr h₀ L h' m → News h₀ L h' ((D, listOf vs'.toArray cap) :: led tabs') → (∀ p ∈ led tabs', p.1 ≠ D) → Q (.ref D) { s with heap := h', toks := tk' }) :
   wpAny (model PySem.Challenge.rw_gy0003_01.row.prog w) (ktrTop dp un gd cn cs L a ccd cl outer) (call (.ref 86) [.int (n : Int) tn]) Q E s := by
  revert X B F N T hk hC hC2
  k_fill
  intro X B F N T hk hC hC2
  have hM := kstMark
  have hret := h
  clear h
  refine wpAny_call ?_
  k_dflt (refine' code_defC ?k1 ?k2 ?k3 ?k4 ?k5 ?kA ?kF ?kK ?k6 ?k7 ?k8 ?k9 ?kB ?kD ?_ ?c2 ?c3 ?c4; (case kA => exact rfl); (case kF => exact rfl); (case kK => assumption); (case k1 => k_asm); (case k2 => k_asm); (case k3 => k_asm); (case k4 => k_asm); (case k5 => k_asm); (case k6 => k_is); (case k7 => k_is); (case k8 => ktr_room); (case k9 => first | exact BindsTo.of_eq rfl | exact kp_binds (by k_in) (fun _ => rfl)); (case kB => exact rfl); (case kD => decide +kernel); (case c2 => exact rfl); (case c3 => exact rfl); (case c4 => exact rfl); k_whole; intro g' L' h' tk' cells' FG' F' N' Y' B' X' T' l1; k_cells Y'; (try simp only [List.cons_append, List.nil_append] at N'); (try dsimp only); (try k_lift B'); (try k_fold))
  have hq1 : ∀ p ∈ led tabs, @Ne Nat p.1 (L' + 1) := fun p hp => by
    have q : @LT.lt Nat _ p.1 L' := l1 p hp
    omega
  have hq2 : ∀ p ∈ led tabs, @Ne Nat p.1 (L' + 1 + 1) := fun p hp => by
    have q : @LT.lt Nat _ p.1 L' := l1 p hp
    omega
  have hq3 : ∀ p ∈ led tabs, @Ne Nat p.1 (L' + 1 + 1 + 1) := fun p hp => by
    have q : @LT.lt Nat _ p.1 L' := l1 p hp
    omega
  k_steps
  refine Stop.intro ?_
  (rename IsRange _ _ _ _ _ _ _ _ => rgA)
  (rename Fr _ _ _ _ => FA)
  (rename News _ _ _ _ => NA)
  refine name_cells NA ?_
  rintro _ _ _ oN oK oC rfl rfl rfl rfl rfl rfl
  (with_unfolding_all refine LCg.CompSrc.range (n := n) rfl FA (cb_drop NA ?ca) rgA (small_one (by omega) (by omega) (by omega) (by omega)) ((rangeSize_nat _ _).trans (by congr 1)) (by rw [sizeLine_eq]; omega) fun g9 => cp_rest (σ := Unit) (n := n) (fun _ => (L' + 1 + 1 + 1, oN) :: (L' + 1 + 1, oK) :: (L' + 1, oC) :: led tabs) (fun i ys _ => IntsAre ys ((rangeKs 0 i).map fun r => if r = 0 then 1 else 0)) ?ct ?cd n 0 [] () (Nat.zero_add _) .nil)
  case ca => k_allIn
  case ct =>
    intro c i ys v I oI C oC' D m₂ h tk E' hi hv hP hC' hx F N off ne
    obtain ⟨tv, rfl⟩ := hv
    obtain ⟨ne1, ne2, ne3⟩ := ne
    clear FA NA rgA
    (try dsimp only at N)
    (try k_fold)
    k_steps
    refine CpEnd.put (P := fun ys _ => IntsAre ys ((rangeKs 0 (i + 1)).map fun r => if r = 0 then 1 else 0)) () (by assumption) (by assumption) ?xs ?xo trivial ?xp
    case xs => k_allIn
    case xo => exact off
    case xp =>
      have e : (if (0 + (i : Int) == 0) = true then (1 : Int) else 0) = (if 0 + (i : Int) = 0 then 1 else 0) := by simp only [beq_iff_eq]
      rw [rangeKs_succ, List.map_append, e]
      exact ints_snoc hP
  case cd =>
    intro c ys hP
    unfold LCg.FinE
    intro D h tk F' N' o1
    obtain ⟨o1a, o1b, o1c, o1d⟩ := o1
    have N : News _ _ h ((D, listOf ys.toArray ys.length) :: (L' + 1 + 1 + 1, oN) :: (L' + 1 + 1, oK) :: (L' + 1, oC) :: led tabs) := N'
    clear N' FA NA rgA
    have hys : IntsAre ys (kindsT n 0) := hP
    (try k_fold)
    k_steps
    refine Stop.intro ?_
    (rename IsRange _ _ _ _ _ _ _ _ => rgB)
    (rename Fr _ _ _ _ => FB)
    (rename News _ _ _ _ => NB)
    refine name_third NB ?_
    rintro oK1 rfl
    have hfl1 : Far (led []) (L' + 1) := Far.of hq1 fun p hp => hL.base hp
    have hfl2 : Far (led []) (L' + 1 + 1) := Far.of hq2 fun p hp => hL.base hp
    have hfl3 : Far (led []) (L' + 1 + 1 + 1) := Far.of hq3 fun p hp => hL.base hp
    have hft1 : Far tabs (L' + 1) := Far.of hq1 fun p hp => hL.tabs hp
    have hft2 : Far tabs (L' + 1 + 1) := Far.of hq2 fun p hp => hL.tabs hp
    have hft3 : Far tabs (L' + 1 + 1 + 1) := Far.of hq3 fun p hp => hL.tabs hp
    have hflD : ∀ p ∈ led tabs, @Ne Nat p.1 D := off1_ne o1d
    (with_unfolding_all refine' lp_range (σ := KS) (n := n + 1) (fun c => (c.D, listOf c.v.toArray c.c) :: (L' + 1 + 1 + 1, c.oN) :: (L' + 1 + 1, c.oK) :: (L' + 1, oC) :: led c.t) (fun _ => []) [Str.ofString "rows", Str.ofString "row"] (fun i c => IntsAre c.v (kindsT n i) ∧ c.oK.data = .cell (some (.ref c.D)) ∧ (∃ w, c.oN.data = .cell w) ∧ Tabs c.t ∧ (0 < i → GI c.t ∧ GD c.t) ∧ Apt c.t (led []) ∧ (Far c.t (L' + 1) ∧ Far c.t (L' + 1 + 1) ∧ Far c.t (L' + 1 + 1 + 1)) ∧ Far (led c.t) c.D ∧ (@Ne Nat c.D (L' + 1) ∧ @Ne Nat c.D (L' + 1 + 1) ∧ @Ne Nat c.D (L' + 1 + 1 + 1))) ⟨D, ys, ys.length, oN, oK1, tabs⟩ rfl rgB (small_one (by omega) (by omega) (by omega) (by omega)) ((rangeSize_nat _ _).trans (by congr 1)) FB NB ?lk ?lp ?lt ?ld)
    case lk => kst_all
    case lp => exact ⟨by assumption, by assumption, ⟨_, by assumption⟩, hT, (fun h => absurd h (Nat.lt_irrefl _)), hA, ⟨hft1, hft2, hft3⟩, (fun q hq => Ne.symm (hflD q hq)), ⟨Ne.symm o1c, Ne.symm o1b, Ne.symm o1a⟩⟩
    case lt =>
      rintro ⟨Dk, vk, ck, oN2, oK2, tb⟩ I1 it1 i t u h2 tk2 hin ⟨p1, p2, ⟨wN, p3⟩, p4, p5, p6, ⟨p7a, p7b, p7c⟩, p8, ⟨p9a, p9b, p9c⟩⟩ hoff F2 N2
      dsimp only at p1 p2 p3 p4 p5 p6 p7a p7b p7c p8 p9a p9b p9c F2 N2 hoff
      clear FB NB rgB
      (try k_fold)
      k_steps
      refine Stop.intro ?_
      (rename IsRange _ _ _ _ _ _ _ _ => rgC)
      (rename Fr _ _ _ _ => FC)
      (rename News _ _ _ _ => NC)
      have hI1 : @Ne Nat I1 (L' + 1) ∧ @Ne Nat I1 (L' + 1 + 1) ∧ @Ne Nat I1 (L' + 1 + 1 + 1) ∧ @Ne Nat I1 Dk := ⟨Ne.symm (hoff _ (.tail _ (.tail _ (.tail _ (.head _))))), Ne.symm (hoff _ (.tail _ (.tail _ (.head _)))), Ne.symm (hoff _ (.tail _ (.head _))), Ne.symm (hoff _ (.head _))⟩
      have hIl : Far (led tb) I1 := fun q hq => Ne.symm (hoff q (.tail _ (.tail _ (.tail _ (.tail _ hq)))))
      have hIt : Far tb I1 := fun q hq => hIl q (hL.tabs hq)
      have hDt : Far tb Dk := fun q hq => p8 q (hL.tabs hq)
      have hvk := p1.length
      rw [kindsT_len] at hvk
      have hks := kindsT_len n i
      generalize hgk : kindsT n i = ks at p1 hks
      (with_unfolding_all refine LCg.CompSrc.range (n := n) rfl FC (cb_drop NC ?ca) rgC (small_one (by omega) (by omega) (by omega) (by omega)) ((rangeSize_nat _ _).trans (by congr 1)) (by rw [sizeLine_eq]; omega) fun g9 => cp_rest (σ := List (Addr × Obj) × List (Addr × Obj)) (n := n) (fun c => (I1, it1) :: (Dk, listOf vk.toArray ck) :: (L' + 1 + 1 + 1, oN2) :: (L' + 1 + 1, oK2) :: (L' + 1, oC) :: (c.1 ++ led c.2)) (fun i ys c => DatAll c.1 ys (((rangeKs 0 i).map (rowOf ks n)).map tD) ∧ Tabs c.2 ∧ (0 < i → GI c.2 ∧ GD c.2) ∧ Apt c.2 ((I1, it1) :: (Dk, listOf vk.toArray ck) :: (L' + 1 + 1 + 1, oN2) :: (L' + 1 + 1, oK2) :: (L' + 1, oC) :: (c.1 ++ led [])) ∧ Far c.1 (L' + 1) ∧ Far c.1 (L' + 1 + 1) ∧ Far c.1 (L' + 1 + 1 + 1)) ?ct ?cd n 0 [] ([], tb) (Nat.zero_add _) ⟨.nil, p4, (fun h => absurd h (Nat.lt_irrefl _)), .cons hIt (.cons hDt (.cons p7c (.cons p7b (.cons p7a p6)))), (fun _ h => nomatch h), (fun _ h => nomatch h), (fun _ h => nomatch h)⟩)
      case ca => exact fun p hp => hp
      case ct =>
        rintro ⟨tu, tq⟩ i2 ys2 v I oI C oC' DR m₂ h tk E' hi hv ⟨r1, r2, r3, r4, r5, r6, r7⟩ hC' hx F N off ne
        dsimp only at r1 r2 r3 r4 r5 r6 r7 N off
        obtain ⟨tv, rfl⟩ := hv
        obtain ⟨ne1, ne2, ne3⟩ := ne
        clear FC NC rgC
        have hqI : Far tq I := fun q hq => Ne.symm (off q (.tail _ (.tail _ (.tail _ (.tail _ (.tail _ (List.mem_append_right _ (hL.tabs hq)))))))).1
        have hqC : Far tq C := fun q hq => Ne.symm (off q (.tail _ (.tail _ (.tail _ (.tail _ (.tail _ (List.mem_append_right _ (hL.tabs hq)))))))).2.1
        have hqD : Far tq DR := fun q hq => Ne.symm (off q (.tail _ (.tail _ (.tail _ (.tail _ (.tail _ (List.mem_append_right _ (hL.tabs hq)))))))).2.2
        (try k_fold)
        k_steps
        refine Stop.intro ?_
        have hzn : (0 : Int) < n := by omega
        k_dflt (refine' la_t (news := []) (tabs := tq) (led := fun t => (I, oI) :: (C, oC') :: (DR, LCg.lst ys2) :: (I1, it1) :: (Dk, listOf vk.toArray ck) :: (L' + 1 + 1 + 1, oN2) :: (L' + 1 + 1, oK2) :: (L' + 1, oC) :: (tu ++ led t)) ?yX ?yB ?yF ?yN ?yT ?yk ?yC ?yC2 ?yL ?yTb ?yA ?y0 ?y1 ?y2 ?y3 ?y4 ?y5 ?yd ?yu ?_; (case yX => k_asm); (case yB => k_asm); (case yF => k_asm); (case yN => k_asm); (case yT => k_asm); (case yk => exact rfl); (case yC => k_asm); (case yC2 => k_asm); (case yL => exact .cons (.cons (.cons (.cons (.cons (.cons (.cons (.cons (.app hL))))))))); (case yTb => assumption); (case yA => exact .cons hqI (.cons hqC (.cons hqD r4))); (case y0 => omega); (case y1 => omega); (case y2 => decide); (case y3 => decide); (case y4 => omega); (case y5 => omega); (case yd => ktr_room); (case yu => ktr_units))
        intro tq2 t1 h1 tk1 g1 g2 a1 F1 N1
        (try dsimp only at a1); (try dsimp only at N1)
        have hgi : GI (tu ++ led tq2) := g1.mono fun p hp => List.mem_append_right _ (hL.tabs hp)
        have hgd : GD (tu ++ led tq2) := g2.mono fun p hp => List.mem_append_right _ (hL.tabs hp)
        have hz0 := Int.emod_nonneg (2 * (0 + (i2 : Int)) + 0) (Int.ne_of_gt hzn)
        have hz1 := Int.emod_lt_of_pos (2 * (0 + (i2 : Int)) + 0) hzn
        have hz2 := Int.emod_nonneg (2 * (0 + (i2 : Int)) + 1) (Int.ne_of_gt hzn)
        have hz3 := Int.emod_lt_of_pos (2 * (0 + (i2 : Int)) + 1) hzn
        have hrow : rowOf ks n (0 + (i2 : Int)) = (ks.getD (0 + (i2 : Int)).toNat 0, ks.getD ((2 * (0 + (i2 : Int)) + 0) % (n : Int)).toNat 0, ks.getD ((2 * (0 + (i2 : Int)) + 1) % (n : Int)).toNat 0) := rfl
        generalize (2 * (0 + (i2 : Int)) + 0) % (n : Int) = z1 at hz0 hz1 hrow ⊢
        generalize hgz : (2 * (0 + (i2 : Int)) + 1) % (n : Int) = z2 at hz2 hz3 hrow
        clear N
        (try dsimp only)
        (try k_fold)
        k_steps
        refine Stop.intro ?_
        (k_dflt (refine' la_g ?jX ?jB ?jF ?jN ?jT ?jhk ?jc1 ?jc2 ?jg1 ?jg2 ?ja ?jb ?jc ?jd ?je ?jf ?jhd ?jhu ?_; (case jX => k_asm); (case jB => k_asm); (case jF => k_asm); (case jN => k_asm); (case jT => k_asm); (case jhk => first | exact rfl | assumption); (case jc1 => k_asm); (case jc2 => k_asm); (case jg1 => (repeat (first | with_reducible assumption | refine GI.cons ?_)); done); (case jg2 => (repeat (first | with_reducible assumption | refine GD.cons ?_)); done); (case ja => omega); (case jb => omega); (case jc => omega); (case jd => omega); (case je => omega); (case jf => omega); (case jhd => ktr_room); (case jhu => ktr_units)); intro t9 h9 tk9 F9 N9; (try dsimp only); (try k_fold))
        k_steps
        (rename News _ _ _ _ => NT0)
        refine name_tup NT0 ?_
        rintro T oT rfl NT hTin
        rw [hgz] at hTin
        rename @LT.lt Nat _ I T ∧ _ => lT
        obtain ⟨la, lb, lc, ld, le, lf, lg, lh, li⟩ := lT
        have li' : ∀ p ∈ tu ++ led tq2, @LT.lt Nat _ p.1 T := allLt_lt li
        have hqT : Far tq2 T := fun q hq => Nat.ne_of_gt (li' q (List.mem_append_right _ (hL.tabs hq)))
        have hlT : ∀ p ∈ led [], @Ne Nat p.1 T := fun p hp => Nat.ne_of_lt (li' p (List.mem_append_right _ (hL.base hp)))
        have a4 := a1.tl.tl.tl
        clear NT0 li
        refine CpEnd.put (P := fun ys c => DatAll c.1 ys (((rangeKs 0 (i2 + 1)).map (rowOf ks n)).map tD) ∧ Tabs c.2 ∧ (0 < i2 + 1 → GI c.2 ∧ GD c.2) ∧ Apt c.2 ((I1, it1) :: (Dk, listOf vk.toArray ck) :: (L' + 1 + 1 + 1, oN2) :: (L' + 1 + 1, oK2) :: (L' + 1, oC) :: (c.1 ++ led [])) ∧ Far c.1 (L' + 1) ∧ Far c.1 (L' + 1 + 1) ∧ Far c.1 (L' + 1 + 1 + 1)) ((T, oT) :: tu, tq2) (by k_asm) (by k_asm) ?xs ?xo ?xt ?xp
        case xt => trivial
        case xs =>
          dsimp only
          refine List.forall_mem_cons.mpr ⟨by k_memK, List.forall_mem_cons.mpr ⟨by k_memK, List.forall_mem_cons.mpr ⟨by k_memK, List.forall_mem_cons.mpr ⟨by k_memK, List.forall_mem_cons.mpr ⟨by k_memK, List.forall_mem_cons.mpr ⟨by k_memK, List.forall_mem_cons.mpr ⟨by k_memK, List.forall_mem_cons.mpr ⟨by k_memK, ?_⟩⟩⟩⟩⟩⟩⟩⟩
          refine List.forall_mem_cons.mpr ⟨by k_memK, fun p hp => ?_⟩
          exact .tail _ (.tail _ (.tail _ (.tail _ (.tail _ (.tail _ (.tail _ (.tail _ (.tail _ hp))))))))
        case xo =>
          intro p hp
          rcases List.mem_cons.mp hp with rfl | hp
          · exact off _ (.head _)
          rcases List.mem_cons.mp hp with rfl | hp
          · exact off _ (.tail _ (.head _))
          rcases List.mem_cons.mp hp with rfl | hp
          · exact off _ (.tail _ (.tail _ (.head _)))
          rcases List.mem_cons.mp hp with rfl | hp
          · exact off _ (.tail _ (.tail _ (.tail _ (.head _))))
          rcases List.mem_cons.mp hp with rfl | hp
          · exact off _ (.tail _ (.tail _ (.tail _ (.tail _ (.head _)))))
          rcases List.mem_cons.mp hp with rfl | hp
          · exact ⟨Nat.ne_of_gt la, Nat.ne_of_gt lb, Nat.ne_of_gt lc⟩
          rcases List.mem_append.mp hp with hp | hp
          · exact off _ (.tail _ (.tail _ (.tail _ (.tail _ (.tail _ (List.mem_append_left _ hp))))))
          rcases hL.split hp with hp | hp
          · exact off _ (.tail _ (.tail _ (.tail _ (.tail _ (.tail _ (List.mem_append_right _ (hL.base hp)))))))
          · exact ⟨Ne.symm (a1.hd p hp), Ne.symm (a1.tl.hd p hp), Ne.symm (a1.tl.tl.hd p hp)⟩
        case xp =>
          refine ⟨?_, .inr ⟨g1, g2⟩, fun _ => ⟨g1, g2⟩, .cons a4.hd (.cons a4.tl.hd (.cons a4.tl.tl.hd (.cons a4.tl.tl.tl.hd (.cons a4.tl.tl.tl.tl.hd (.cons hqT a4.tl.tl.tl.tl.tl))))), r5.cons (Nat.ne_of_lt lh), r6.cons (Nat.ne_of_lt lg), r7.cons (Nat.ne_of_lt lf)⟩
          rw [rangeKs_succ, List.map_append, List.map_append, List.map_singleton, List.map_singleton, hrow]
          exact (r1.mono fun p hp => .tail _ hp).append (.one (hTin _ (.head _)))
      case cd =>
        rintro ⟨tu, tq⟩ ys2 ⟨r1, r2, r3, r4, r5, r6, r7⟩
        dsimp only at r1 r2 r3 r4 r5 r6 r7
        unfold LCg.FinA
        intro DR h tk F' N' o1
        have N : News _ _ h ((DR, listOf ys2.toArray ys2.length) :: (I1, it1) :: (Dk, listOf vk.toArray ck) :: (L' + 1 + 1 + 1, oN2) :: (L' + 1 + 1, oK2) :: (L' + 1, oC) :: (tu ++ led tq)) := N'
        obtain ⟨q1, q2, q3, q4, q5, q6⟩ := o1
        have q1' : @Ne Nat I1 DR := q1
        have q2' : @Ne Nat Dk DR := q2
        have q3' : @Ne Nat (L' + 1 + 1 + 1) DR := q3
        have q4' : @Ne Nat (L' + 1 + 1) DR := q4
        have q5' : @Ne Nat (L' + 1) DR := q5
        obtain ⟨hI1a, hI1b, hI1c, hI1d⟩ := hI1
        have hrl : ys2.length = n := by rw [r1.length, List.length_map, List.length_map, rangeKs_length]
        have ht1 : ∀ p ∈ tu ++ led tq, @Ne Nat p.1 (L' + 1) := Far.ne (far_app r5 (far_led hL hfl1 r4.tl.tl.tl.tl.hd))
        have ht2 : ∀ p ∈ tu ++ led tq, @Ne Nat p.1 (L' + 1 + 1) := Far.ne (far_app r6 (far_led hL hfl2 r4.tl.tl.tl.hd))
        have ht3 : ∀ p ∈ tu ++ led tq, @Ne Nat p.1 (L' + 1 + 1 + 1) := Far.ne (far_app r7 (far_led hL hfl3 r4.tl.tl.hd))
        change DatAll tu ys2 ((rowsOf ks n).map tD) at r1
        have hro := rowsOf_len ks n
        generalize hgr : rowsOf ks n = rows at r1 hro
        clear N' FC NC rgC q1 q2 q3 q4 q5
        (try k_fold)
        k_steps
        refine Stop.intro ?_
        (rename Fr _ _ _ _ => FD)
        (rename News _ _ _ _ => ND)
        refine name_known ND ?_
        rintro K0 oN3 rfl rfl
        rename @LT.lt Nat _ DR K0 ∧ _ => lK
        obtain ⟨lka, lkb, lkc, lkd, lke, lkf, lkg⟩ := lK
        (with_unfolding_all refine' lp_any (σ := KA) (ax := DR) (vs := ys2) (nn := ys2.length) (fun c => (c.D, listOf c.v.toArray c.c) :: (DR, listOf ys2.toArray ys2.length) :: (I1, it1) :: (Dk, listOf vk.toArray ck) :: (L' + 1 + 1 + 1, c.oN) :: (L' + 1 + 1, oK2) :: (L' + 1, oC) :: (tu ++ led tq)) (fun _ => []) [] (fun i c => DatAll tu c.v (((rows.take i).foldl addNew []).map tD) ∧ c.oN.data = .cell (some (.ref c.D)) ∧ @Ne Nat c.D (L' + 1 + 1 + 1) ∧ @Ne Nat c.D (L' + 1 + 1)) ⟨K0, [], 0, oN3⟩ rfl ?mm FD ND ?mk ?mp ?mt ?md)
        case mm => exact .tail _ (.head _)
        case mk => kst_all
        case mp => exact ⟨.nil, by assumption, Nat.ne_of_gt lkd, Nat.ne_of_gt lke⟩
        case mt =>
          rintro ⟨Kn, vn, cn2, oN4⟩ I2 it2 j v u3 h3 tk3 hv ⟨s1, s2, s3, s4⟩ hmem2 hoff2 F3 N3
          dsimp only at s1 s2 s3 s4 F3 N3 hoff2
          clear FD ND
          have hj : j < rows.length := by
            rw [hro, ← hrl]
            exact (List.getElem?_eq_some_iff.mp hv).1
          have hrow : rows[j]? = some rows[j] := by simp [hj]
          obtain ⟨v', hv', hvin⟩ := r1.get (k := j) (by rw [List.length_map]; exact hj)
          rw [hv] at hv'
          obtain rfl := Option.some.inj hv'
          rw [List.getElem_map] at hvin
          obtain ⟨aT, rfl⟩ := tD_ref hvin
          have htk := take_snoc' hrow
          generalize rows[j] = rw0 at hvin htk
          have hi2 : @Ne Nat I2 (L' + 1 + 1 + 1) := Ne.symm (hoff2 _ (.tail _ (.tail _ (.tail _ (.tail _ (.head _))))))
          have hvl := s1.length
          have hkl := foldNew_len (rows.take j) []
          rw [List.length_map] at hvl
          rw [List.length_take] at hkl
          have hvl2 : vn.length < 1000 := by
            simp only [List.length_nil] at hkl
            omega
          by_cases hin : rw0 ∈ (rows.take j).foldl addNew []
          · have hdec : decide (rw0 ∈ (rows.take j).foldl addNew []) = !false := by simpa using hin
            (try k_fold)
            k_steps
            refine Stop.intro ?_
            (k_dflt (refine' notin_trip ?jk1 ?jk2 ?jk3 ?jk4 ?jk5 ?jk6 ?jk7 ?_; (case jk1 => k_asm); (case jk2 => k_mem); (case jk3 => assumption); (case jk4 => (intro p hp; (repeat (first | exact List.mem_append_left _ hp | refine List.mem_cons_of_mem _ ?_)); done)); (case jk5 => assumption); (case jk6 => units_room); (case jk7 => assumption)))
            k_steps
            refine Stop.intro ?_
            (k_dflt (refine' cat_any ?jF ?jN ?ja ?jb ?jz ?jy ?_; (case jF => k_asm); (case jN => k_asm); (case ja => k_mem); (case jb => k_mem); (case jz => first | omega | (simp only [List.length_cons, List.length_nil]; omega)); (case jy => first | omega | (simp only [List.length_cons, List.length_nil]; omega))); intro D9 h9 F9 N9 l9; (try k_lt l9))
            k_steps
            (rename News _ _ _ _ => NE)
            refine name_end NE ?_
            rintro D9 oN5 rfl rfl
            rename _ ∧ @LT.lt Nat _ I2 D9 ∧ _ => l9
            obtain ⟨_, lI2, _, _, _, _, lD3, lD2, _⟩ := l9
            refine' LpPost.nextL ⟨D9, _, _, oN5⟩ (by k_asm) (by k_asm) ?zP ?zs ?zo ?zk ?zh ?zl
            case zk => kst_all
            case zs => k_allIn
            case zo => exact List.forall_mem_cons.mpr ⟨Nat.ne_of_gt lI2, List.forall_mem_cons.mpr ⟨hoff2 _ (.tail _ (.head _)), List.forall_mem_cons.mpr ⟨hoff2 _ (.tail _ (.tail _ (.head _))), List.forall_mem_cons.mpr ⟨hoff2 _ (.tail _ (.tail _ (.tail _ (.head _)))), List.forall_mem_cons.mpr ⟨Ne.symm hi2, fun p hp => hoff2 p (.tail _ (.tail _ (.tail _ (.tail _ (.tail _ hp)))))⟩⟩⟩⟩⟩
            case zh =>
              intro z z1 z2 z3
              exact if_neg z1
            case zl => exact .tail _ (.head _)
            case zP =>
              refine ⟨?_, by assumption, Nat.ne_of_gt lD3, Nat.ne_of_gt lD2⟩
              rw [htk, List.foldl_append, List.foldl_cons, List.foldl_nil]
              rw [addNew, if_pos hin, List.append_nil]
              exact s1
          · have hdec : decide (rw0 ∈ (rows.take j).foldl addNew []) = !true := by simpa using hin
            (try k_fold)
            k_steps
            refine Stop.intro ?_
            (k_dflt (refine' notin_trip ?jk1 ?jk2 ?jk3 ?jk4 ?jk5 ?jk6 ?jk7 ?_; (case jk1 => k_asm); (case jk2 => k_mem); (case jk3 => assumption); (case jk4 => (intro p hp; (repeat (first | exact List.mem_append_left _ hp | refine List.mem_cons_of_mem _ ?_)); done)); (case jk5 => assumption); (case jk6 => units_room); (case jk7 => assumption)))
            k_steps
            refine Stop.intro ?_
            (k_dflt (refine' cat_any ?jF ?jN ?ja ?jb ?jz ?jy ?_; (case jF => k_asm); (case jN => k_asm); (case ja => k_mem); (case jb => k_mem); (case jz => first | omega | (simp only [List.length_cons, List.length_nil]; omega)); (case jy => first | omega | (simp only [List.length_cons, List.length_nil]; omega))); intro D9 h9 F9 N9 l9; (try k_lt l9))
            k_steps
            (rename News _ _ _ _ => NE)
            refine name_end NE ?_
            rintro D9 oN5 rfl rfl
            rename _ ∧ @LT.lt Nat _ I2 D9 ∧ _ => l9
            obtain ⟨_, lI2, _, _, _, _, lD3, lD2, _⟩ := l9
            refine' LpPost.nextL ⟨D9, _, _, oN5⟩ (by k_asm) (by k_asm) ?zP ?zs ?zo ?zk ?zh ?zl
            case zk => kst_all
            case zs => k_allIn
            case zo => exact List.forall_mem_cons.mpr ⟨Nat.ne_of_gt lI2, List.forall_mem_cons.mpr ⟨hoff2 _ (.tail _ (.head _)), List.forall_mem_cons.mpr ⟨hoff2 _ (.tail _ (.tail _ (.head _))), List.forall_mem_cons.mpr ⟨hoff2 _ (.tail _ (.tail _ (.tail _ (.head _)))), List.forall_mem_cons.mpr ⟨Ne.symm hi2, fun p hp => hoff2 p (.tail _ (.tail _ (.tail _ (.tail _ (.tail _ hp)))))⟩⟩⟩⟩⟩
            case zh =>
              intro z z1 z2 z3
              exact if_neg z1
            case zl => exact .tail _ (.head _)
            case zP =>
              refine ⟨?_, by assumption, Nat.ne_of_gt lD3, Nat.ne_of_gt lD2⟩
              rw [htk, List.foldl_append, List.foldl_cons, List.foldl_nil]
              rw [addNew, if_neg hin, List.map_append, List.map_singleton]
              exact s1.append (.one hvin)
        case md =>
          rintro ⟨Kf, vf, cf, oNf⟩ u3 h3 tk3 ⟨s1, s2, s3, s4⟩ F3 N3
          dsimp only at s1 s2 s3 s4 F3 N3
          clear FD ND
          rw [hrl, ← hro, List.take_length] at s1
          change DatAll tu vf ((knownOf rows).map tD) at s1
          have hkl := knownOf_len rows
          have hvl := s1.length
          rw [List.length_map] at hvl
          (try k_fold)
          k_steps
          refine Stop.intro ?_
          (rename Fr _ _ _ _ => FD)
          (rename News _ _ _ _ => ND)
          (with_unfolding_all refine LCg.CompSrc.ledger (ax := DR) (its := ys2.toArray) (k := ys2.length) rfl FD (cb_drop ND ?ca) (.tail _ (.head _)) (by rw [List.size_toArray, sizeLine_eq]; omega) fun g9 => cp_rest (σ := Unit) (n := ys2.toArray.size) (fun _ => (Kf, listOf vf.toArray cf) :: (DR, listOf ys2.toArray ys2.length) :: (I1, it1) :: (Dk, listOf vk.toArray ck) :: (L' + 1 + 1 + 1, oNf) :: (L' + 1 + 1, oK2) :: (L' + 1, oC) :: (tu ++ led tq)) (fun j ys _ => IntsAre ys ((rows.take j).map fun r => (((knownOf rows).idxOf r : Nat) : Int))) ?ct ?cd ys2.toArray.size 0 [] () (Nat.zero_add _) .nil)
          case ca => k_allIn
          case ct =>
            intro c j ys v I oI C oC' D m₂ h tk E' hi hv hP hC' hx F N off ne
            have hv2 : ys2[j]? = some v := by simpa using hv
            have hj : j < rows.length := by
              rw [hro, ← hrl]
              exact (List.getElem?_eq_some_iff.mp hv2).1
            have hrow : rows[j]? = some rows[j] := by simp [hj]
            obtain ⟨v', hv', hvin⟩ := r1.get (k := j) (by rw [List.length_map]; exact hj)
            rw [hv2] at hv'
            obtain rfl := Option.some.inj hv'
            rw [List.getElem_map] at hvin
            obtain ⟨aT, rfl⟩ := tD_ref hvin
            have htk := take_snoc' hrow
            have hrk : rows[j] ∈ knownOf rows := knownOf_mem.mpr (List.getElem_mem hj)
            generalize rows[j] = rw0 at hvin htk hrk
            obtain ⟨ne1, ne2, ne3⟩ := ne
            clear FD ND hv
            (try dsimp only at N)
            (try k_fold)
            k_steps
            refine Stop.intro ?_
            (k_dflt (refine' index_trip ?jk1 ?jk2 ?jk3 ?jk4 ?jk5 ?jk6 ?jk7 ?jk8 ?_; (case jk1 => k_asm); (case jk2 => k_mem); (case jk3 => assumption); (case jk4 => (intro p hp; (repeat (first | exact List.mem_append_left _ hp | refine List.mem_cons_of_mem _ ?_)); done)); (case jk5 => assumption); (case jk6 => units_room); (case jk7 => omega); (case jk8 => assumption)); intro t9)
            k_steps
            refine CpEnd.put (P := fun ys _ => IntsAre ys ((rows.take (j + 1)).map fun r => (((knownOf rows).idxOf r : Nat) : Int))) () (by assumption) (by assumption) ?xs ?xo ?xt ?xp
            case xs => k_allIn
            case xo => exact off
            case xt => exact .inr ⟨_, .tail _ (.head _), rfl, _, rfl⟩
            case xp =>
              rw [htk, List.map_append]
              exact ints_snoc hP
          case cd =>
            intro c ys3 hP
            unfold LCg.FinE
            intro D2 h tk F' N' o1
            have N : News _ _ h ((D2, listOf ys3.toArray ys3.length) :: (Kf, listOf vf.toArray cf) :: (DR, listOf ys2.toArray ys2.length) :: (I1, it1) :: (Dk, listOf vk.toArray ck) :: (L' + 1 + 1 + 1, oNf) :: (L' + 1 + 1, oK2) :: (L' + 1, oC) :: (tu ++ led tq)) := N'
            rw [List.size_toArray, hrl, ← hro, List.take_length] at hP
            obtain ⟨w1, w2, w3, w4, w5, w6, w7, w8⟩ := o1
            have w3' : @Ne Nat I1 D2 := w3
            have w5' : @Ne Nat (L' + 1 + 1 + 1) D2 := w5
            have w6' : @Ne Nat (L' + 1 + 1) D2 := w6
            have w7' : @Ne Nat (L' + 1) D2 := w7
            have w8' : ∀ p ∈ tu ++ led tq, @Ne Nat p.1 D2 := off1_ne w8
            clear N' FD ND w1 w2 w3 w4 w5 w6 w7 w8
            (try k_fold)
            k_steps
            (rename News _ _ _ _ => NE)
            refine name_sev NE ?_
            rintro oK5 rfl
            have hIl0 : Far (led tq) I1 := far_led hL (fun q hq => hIl q (hL.base hq)) r4.hd
            refine' LpPost.next ⟨D2, ys3, ys3.length, oNf, oK5, tq⟩ (by k_asm) (by k_asm) ?zP ?zs ?zo ?zk ?zh
            case zk => kst_all
            case zs =>
              dsimp only
              refine List.forall_mem_cons.mpr ⟨by k_memK, List.forall_mem_cons.mpr ⟨by k_memK, List.forall_mem_cons.mpr ⟨by k_memK, List.forall_mem_cons.mpr ⟨by k_memK, List.forall_mem_cons.mpr ⟨by k_memK, fun p hp => ?_⟩⟩⟩⟩⟩
              exact .tail _ (.tail _ (.tail _ (.tail _ (.tail _ (.tail _ (.tail _ (.tail _ (List.mem_append_right _ hp))))))))
            case zo => exact List.forall_mem_cons.mpr ⟨Ne.symm w3', List.forall_mem_cons.mpr ⟨Ne.symm hI1c, List.forall_mem_cons.mpr ⟨Ne.symm hI1b, List.forall_mem_cons.mpr ⟨Ne.symm hI1a, fun p hp => Ne.symm (hIl0 p hp)⟩⟩⟩⟩
            case zh =>
              intro z z1 z2 z3
              have z4 : z ≠ Str.ofString "rows" ∧ z ≠ Str.ofString "row" := by simpa using z3
              simp [kstB, z1, z4.1, z4.2]
            case zP =>
              refine ⟨?_, by assumption, ⟨_, s2⟩, r2, fun _ => r3 (by omega), r4.tl.tl.tl.tl.tl.right, ⟨r4.tl.tl.tl.tl.hd, r4.tl.tl.tl.hd, r4.tl.tl.hd⟩, fun q hq => Ne.symm (w8' q (List.mem_append_right _ hq)), ⟨Ne.symm w7', Ne.symm w6', Ne.symm w5'⟩⟩
              dsimp only
              rw [kindsT, hgk, nextK, hgr]
              exact hP
    case ld =>
      rintro ⟨Dk, vk, ck, oN2, oK2, tb⟩ u h2 tk2 ⟨p1, p2, ⟨wN, p3⟩, p4, p5, p6, ⟨p7a, p7b, p7c⟩, p8, ⟨p9a, p9b, p9c⟩⟩ F2 N2
      dsimp only at p1 p2 p3 p4 p5 p6 p7a p7b p7c p8 p9a p9b p9c F2 N2
      clear FB NB rgB
      have p5' := p5 (by omega)
      (try k_fold)
      k_steps
      refine hret _ _ _ tb _ _ p1 p5'.1 p5'.2 p6 (by k_asm) (cb_drop (by k_asm) (List.forall_mem_cons.mpr ⟨by k_memK, fun p hp => by k_memK⟩)) (fun p hp => Ne.symm (p8 p hp))
end

/-! dict(list of pairs of ints) -/
theorem keys_miss : typeLookup (.type "list") "keys" = pure none := by rw [typeLookup_type, builtinLookup_eq_fast]; kernel_rfl
theorem keys_none {prog : Program} {w : World} {A : Around} {E : Value → Shared → Prop} {s : Shared} {a : Addr} {xs : Array Value} {k : Nat} {Q : Option Value → Shared → Prop}
    (hx : s.heap.get? a = some { cls := .type "list", dict := none, data := .seq xs k, slots := #[] }) (hA : A.handled = none) (h : ∀ h' tk, (∀ b o, s.heap.get? b = some o → h'.get? b = some o) → Q none { s with heap := h', toks := tk }) :
    wpAny (model prog w) A (getAttr? (.ref a) "keys") Q E s := by
  obtain ⟨hp, g, d, tk, os⟩ := s
  have hT : ∀ tk', (⟨hp, g, d, tk', os⟩ : Shared).TypeIs (.ref a) "list" := fun _ => ⟨_, hx, rfl⟩
  have f1 := sub_AttributeError
  have f3 := F.slot_list_getattribute.lookup
  have f4 := F.slot_list_getattribute.bind (.ref a)
  have f5 := am_list_getattr_none
  unfold getAttr? getAttrBy? getAttrBy
  repeat (any_goals (first | assumption | exact hT _ | ((with_reducible show wpAny _ _ (call (Value.builtin "list.__getattribute__") _ _) _ _ _); refine call_meets F.slot_list_getattribute (hT _) am_entry_list_getattribute (F.args_list_getattribute_2 _ _) (meets_getattribute_miss_list a xs k #[] "keys" _ keys_miss (by decide) (by decide)) ⟨hx, hA, fun h' tk' e hx' => ?_⟩) | wp_step))
  obtain ⟨t', u', he⟩ := hx'.there
  show wpAny _ _ (getattributeRaised _ _ _ _ _ _ _) _ _ _
  unfold getattributeRaised
  repeat (any_goals (first | assumption | wp_step))
  exact h _ _ hx'.keeps

theorem plain_upd_loop : plainId "dict.update.loop" = true := by decide +kernel
theorem entry_upd_loop : entryFor table "dict.update.loop" = some Builtin.«dict.update.loop» := entryFor_of_fast (by kernel_rfl)
/-- the pairs that lie in a list: each a tuple of an int and another value -/
def PairsAt (h : Heap) (its : Array Value) (kvs : List (Int × Value)) (d it : Addr) : Prop := its.size = kvs.length ∧ ∀ (i : Nat) (k : Int × Value), kvs[i]? = some k → ∃ (T : Addr) (t : Tok) (n : Nat), its[i]? = some (Value.ref T) ∧ h.get? T = some { cls := .type "tuple", data := .seq #[.int k.1 t, k.2] n } ∧ T ≠ d ∧ T ≠ it
theorem PairsAt.keep {h h' : Heap} {its : Array Value} {kvs : List (Int × Value)} {d it : Addr} (x : PairsAt h its kvs d it) (hk : ∀ b o, b ≠ d → b ≠ it → h.get? b = some o → h'.get? b = some o) : PairsAt h' its kvs d it :=
  ⟨x.1, fun i k e => by
    obtain ⟨T, t, n, a, b, c, d'⟩ := x.2 i k e
    exact ⟨T, t, n, a, hk T _ c d' b, c, d'⟩⟩
section
variable {prog : Program} {w : World}
theorem upd_loop {d it src : Addr} {its : Array Value} {kvs : List (Int × Value)} (hdi : d ≠ it) (hds : d ≠ src) (his : it ≠ src) (hz : kvs.length ≤ 1000) : ∀ (k i : Nat), kvs.length - i = k → i ≤ kvs.length → ∀ (A : Around) (R : Result → Shared → Prop) (s : Shared),
    A.handled = none → s.heap.IsListIter it src i → s.heap.IsList src its → s.heap.DictOf (PySem.intKind prog w) d (merged [] (kvs.take i)) → PairsAt s.heap its kvs d it →
    (∀ h' tk, h'.DictOf (PySem.intKind prog w) d (merged [] kvs) → (∀ b o, b ≠ d → b ≠ it → s.heap.get? b = some o → h'.get? b = some o) → R (.ok (.ret .none)) { s with heap := h', toks := tk }) →
    wpAny (model prog w) A.in1 (Builtin.«dict.update.loop» ⟨[.ref d, .ref it, rawInt i, .none], []⟩) (fun fin s' => match fin with | .done f => R (.ok f) s' | .again c' => c'.quiet = true ∧ codeAny (model prog w) A c' R s') (fun e s' => R (.error e) s') s := by
  intro k
  induction k with
  | zero =>
    intro i hk hi A R s hh h1 h2 h3 h4 hR
    have hik : i = kvs.length := by omega
    subst hik
    rw [List.take_length] at h3
    unfold Builtin.«dict.update.loop»
    show wpAny _ _ (pyNext (.ref it) >>= _) _ _ _
    refine wpAny_bind (wpAny_pyNext_list_end hh h1 h2 (by rw [Array.getElem?_eq_none]; rw [h4.1]; exact Nat.le_refl _) fun h' he => ?_)
    show wpAny _ _ (Builtin.Dict.addKeywords d [] >>= _) _ _ _
    refine wpAny_bind (wpAny_pure (wpAny_pure ?_))
    exact hR h' _ (h3.extBut he hdi) fun b o _ hb e => he b o hb e
  | succ k ih =>
    intro i hk hi A R s hh h1 h2 h3 h4 hR
    have hlt : i < kvs.length := by omega
    obtain ⟨T, t, n, e1, e2, e3, e4⟩ := h4.2 i kvs[i] (by simp [hlt])
    unfold Builtin.«dict.update.loop»
    show wpAny _ _ (pyNext (.ref it) >>= _) _ _ _
    refine wpAny_bind (wpAny_pyNext_list_item h1 h2 e1 fun h' hit hs => ?_)
    have eT : h'.get? T = some { cls := .type "tuple", data := .seq #[.int kvs[i].1 t, kvs[i].2] n } := hs.extBut T _ e4 e2
    show wpAny _ _ (holding [Value.ref T] _ >>= _) _ _ _
    refine wpAny_bind (wpAny_holding (wpAny_bind (wpAny_tryCatch ?_)))
    show wpAny _ _ (typeOf (Value.ref T) >>= _) _ _ _
    refine wpAny_bind (wpAny_typeOf (T := "tuple") ⟨_, eT, rfl⟩ ?_)
    rw [if_pos (by decide)]
    refine wpAny_bind (wpAny_seqItems eT rfl (wpAny_pure ?_))
    show wpAny _ _ (holding [Value.int kvs[i].1 t, kvs[i].2] (dictSet d (.int kvs[i].1 t) kvs[i].2)) _ _ _
    refine wpAny_holding (wpAny_dictSet_pairs (knd := PySem.intKind prog w) (k := kvs[i].1) (hsz := ?hz0) (intKind_is _ _ _ _) (h3.sameBut hs hdi) fun h'' hd'' hs'' => ?_)
    case hz0 =>
      have := merged_length_le ([] : List (Int × Value)) (kvs.take i)
      rw [List.length_take] at this
      rw [sizeLine_eq]
      simp only [List.length_nil] at this
      omega
    · have hc : ((i : Int) + 1) = ((i + 1 : Nat) : Int) := by push_cast; rfl
      have hold : ∀ b o, b ≠ d → b ≠ it → s.heap.get? b = some o → h''.get? b = some o := fun b o hb1 hb2 e => hs''.extBut b o hb1 (hs.extBut b o hb2 e)
      show wpAny _ _ (again (.builtin "dict.update.loop" ⟨[.ref d, .ref it, rawInt ((i : Int) + 1), .none], []⟩)) _ _ _
      rw [hc]
      refine wpAny_pure ⟨plainId_quiet plain_upd_loop _, codeAny_builtin entry_upd_loop ?_⟩
      rw [Around.under_plainId plain_upd_loop _]
      refine ih (i + 1) (by omega) (by omega) A R _ hh ?_ ?_ ?_ (h4.keep hold) fun h3 tk a b => hR h3 tk a fun x o hx1 hx2 e => b x o hx1 hx2 (hold x o hx1 hx2 e)
      · obtain ⟨o, ho, r⟩ := hit
        exact ⟨o, hs''.extBut it o (Ne.symm hdi) ho, r⟩
      · obtain ⟨o, ho, r⟩ := h2
        exact ⟨o, hs''.extBut src o (Ne.symm hds) (hs.extBut src o (Ne.symm his) ho), r⟩
      · rw [merged_take_succ _ _ i kvs[i] (by simp [hlt])]
        exact hd''
theorem dict_pairs {A : Around} {E : Value → Shared → Prop} {s : Shared} {src : Addr} {its : Array Value} {nn : Nat} {kvs : List (Int × Value)} {Q : Value → Shared → Prop} (hh : A.handled = none) (hsrc : s.heap.get? src = some { cls := .type "list", data := .seq its nn }) (hz : kvs.length ≤ 1000)
    (hp : its.size = kvs.length ∧ ∀ (i : Nat) (k : Int × Value), kvs[i]? = some k → ∃ (T : Addr) (t : Tok) (n : Nat), its[i]? = some (Value.ref T) ∧ s.heap.get? T = some { cls := .type "tuple", data := .seq #[.int k.1 t, k.2] n })
    (h : ∀ h' tk, h'.DictOf (PySem.intKind prog w) s.heap.objs.size (merged [] kvs) → (∀ b o, s.heap.get? b = some o → h'.get? b = some o) → Q (.ref s.heap.objs.size) { s with heap := h', toks := tk }) :
    wpAny (model prog w) A (call (.type "dict") [.ref src]) Q E s := by
  refine callType_codes (Q₁ := fun obj s₁ => obj = .ref s.heap.objs.size ∧ s₁ = { s with heap := s.heap.push { cls := .type "dict", data := .dict #[] } }) F.kt_called_dict (F.kt_typeCall_dict_1 _) F.entry_dict_init (kt_code_dict_new _ ⟨rfl, rfl⟩) ?_
  rintro obj s₁ ⟨rfl, rfl⟩
  have hnew : (s.heap.push { cls := .type "dict", data := .dict #[] }).DictOf (PySem.intKind prog w) s.heap.objs.size [] := Heap.DictOf.new s.heap
  have up : ∀ b o, s.heap.get? b = some o → (s.heap.push { cls := .type "dict", data := .dict #[] }).get? b = some o := fun b o e => Heap.get?_push_of_some _ e
  have hsrc1 := up _ _ hsrc
  refine ⟨hnew.typeIs, F.args_dict_init_2 _ _, ?_⟩
  unfold Builtin.«dict.__init__»
  refine wpAny_bind ?_
  unfold Builtin.Dict.selfAndRest
  refine wpAny_bind (wpAny_notOrdered_dict hnew.typeIs ?_)
  show wpAny _ _ (pure (s.heap.objs.size, [Value.ref src])) _ _ _
  refine wpAny_pure ?_
  show wpAny _ _ (Builtin.Dict.updateFrom "dict.__init__" s.heap.objs.size (.ref src) [] .none) _ _ _
  unfold Builtin.Dict.updateFrom
  refine wpAny_bind (wpAny_typeOf (T := "list") ⟨_, hsrc1, rfl⟩ ?_)
  rw [if_pos (by decide)]
  refine wpAny_bind (keys_none hsrc1 hh fun h2 tk2 k2 => ?_)
  rw [if_pos (show ((none : Option Value).isNone = true) from rfl)]
  refine wpAny_bind (wpAny_rule ?_)
  have hsrc2 : h2.get? src = some { cls := .type "list", data := .seq its nn } := k2 _ _ hsrc1
  have hd2 : h2.DictOf (PySem.intKind prog w) s.heap.objs.size [] := hnew.keep k2
  have hdl : s.heap.objs.size < h2.objs.size := by
    obtain ⟨_, _, _, hg, _⟩ := hd2
    exact Heap.lt_size hg
  have hsl : src < s.heap.objs.size := Heap.lt_size hsrc
  have old : ∀ b o, s.heap.get? b = some o → h2.get? b = some o := fun b o e => k2 b o (up b o e)
  refine wpAny_bind (wpAny_pyIter_list (items := its) ⟨_, hsrc2, rfl, nn, rfl⟩ ?_)
  refine wpAny_pure ⟨plainId_quiet plain_upd_loop _, codeAny_builtin entry_upd_loop ?_⟩
  rw [Around.under_plainId plain_upd_loop _]
  have hlt : ∀ b o, s.heap.get? b = some o → b ≠ s.heap.objs.size ∧ b ≠ h2.objs.size := fun b o e => by
    have q : @LT.lt Nat _ b s.heap.objs.size := Heap.lt_size e
    exact ⟨Nat.ne_of_lt q, Nat.ne_of_lt (Nat.lt_trans q hdl)⟩
  refine upd_loop (d := s.heap.objs.size) (it := h2.objs.size) (src := src) (its := its) (kvs := kvs) (Nat.ne_of_lt hdl) (Nat.ne_of_gt hsl) (Nat.ne_of_gt (Nat.lt_trans hsl hdl)) hz _ 0 rfl (Nat.zero_le _) A.in1 _ _ hh ?_ ?_ ?_ ?_ ?_
  · exact ⟨_, Heap.get?_push_size _ rfl, rfl, rfl⟩
  · exact ⟨_, Heap.get?_push_of_some _ hsrc2, rfl, nn, rfl⟩
  · exact hd2.push _
  · refine ⟨hp.1, fun i k e => ?_⟩
    obtain ⟨T, t, n, a1, a2⟩ := hp.2 i k e
    have := hlt T _ a2
    exact ⟨T, t, n, a1, Heap.get?_push_of_some _ (old _ _ a2), this.1, this.2⟩
  · intro h' tk a b
    refine ⟨rfl, h h' tk a fun x o e => b x o (hlt x o e).1 (hlt x o e).2 (Heap.get?_push_of_some _ (old x o e))⟩
end

/-! a loop whose target is a cell -/
def CPost (h₀ : Heap) (L : Addr) (s₁ : Shared) (I : Addr) (it : Obj) (c : Addr) (J : (Str → Option Value) → List (Addr × Obj) → Prop) (Q : Flow → Shared → Prop) (f : Flow) (s₂ : Shared) : Prop :=
  match f with
  | .ret v => Q (.ret v) s₂
  | .brk => Q .next s₂
  | _ => ∃ h' tk' m' nx o w, s₂ = { s₁ with heap := h', toks := tk' } ∧ Fr h₀ L h' m' ∧ News h₀ L h' ((I, it) :: (c, o) :: nx) ∧ o.data = .cell w ∧ (∀ p ∈ nx, @Ne Nat p.1 I ∧ @Ne Nat p.1 c) ∧ J m' nx
def LoopAtC (prog : Program) (w : World) (A : Around) (h₀ : Heap) (env : Env) (c : Addr) (body : List Stmt) (Q : Flow → Shared → Prop) (E : Value → Shared → Prop) (it : Value) (s₂ : Shared) : Prop :=
  ∃ (I : Addr) (n : Nat) (P : Nat → Value → Prop) (St : Nat → Heap → Prop) (m : Str → Option Value) (news : List (Addr × Obj)) (o : Obj) (w₀ : Option Value) (J : Nat → (Str → Option Value) → List (Addr × Obj) → Prop),
    it = .ref I ∧ Walks prog w A I [I] [I] n P St ∧ (∀ i h, St i h → ∃ o, h.get? I = some o) ∧ env.locals ≠ I ∧ h₀.get? I = none ∧ (∀ p ∈ news, @Ne Nat p.1 I ∧ @Ne Nat p.1 c) ∧ @Ne Nat c I ∧ o.data = .cell w₀ ∧ St 0 s₂.heap ∧ Fr h₀ env.locals s₂.heap m ∧ News h₀ env.locals s₂.heap ((c, o) :: news) ∧ J 0 m news ∧
    (∀ i v m₁ nx oI o₁ h tk, i < n → P i v → J i m₁ nx → (∀ p ∈ nx, @Ne Nat p.1 I ∧ @Ne Nat p.1 c) → o₁.data = .cell (some v) → Fr h₀ env.locals h m₁ → News h₀ env.locals h ((I, oI) :: (c, o₁) :: nx) →
      wpAny (model prog w) A (execs body env) (CPost h₀ env.locals { s₂ with heap := h, toks := tk } I oI c (J (i + 1)) Q) E { s₂ with heap := h, toks := tk }) ∧
    ∀ h' tk m' nx o' w', Fr h₀ env.locals h' m' → News h₀ env.locals h' ((c, o') :: nx) → o'.data = .cell w' → (∀ p ∈ nx, @Ne Nat p.1 c) → J n m' nx → Q .next { s₂ with heap := h', toks := tk }
section
variable {prog : Program} {w : World} {A : Around} {E : Value → Shared → Prop} {s : Shared} {env : Env} {h₀ : Heap} {x : Str} {c : Addr} {body : List Stmt} {Q : Flow → Shared → Prop}
theorem For_C {px pos : Pos} {iter : PySem.Expr} {m : Str → Option Value} (hFr : Fr h₀ env.locals s.heap m) (hk : env.scope.kind = .function) (hx : env.kindOf x = some .cell) (hc : env.cells.lookup x = some c)
    (h : wpAny (model prog w) A (eval iter env) (fun xv s₁ => wpAny (model prog w) A (pyIter xv) (fun it s₂ => LoopAtC prog w A h₀ env c body Q E it s₂) E s₁) E s)
    (hs : ∀ x, foldedSetIterable iter env x = pure x := by intro _; rfl) (hE : PassesOwn (model prog w) A env E := by passes_own) :
    wpAny (model prog w) A (exec (.For (.Name x px) iter body [] pos) env) Q E s := by
  refine wpAny_For (wpAny_mono h (fun xv s₁ h₁ => wpAny_mono h₁ (fun it s₂ h₂ => ?_) fun _ _ e => e) fun _ _ e => e) hs
  obtain ⟨I, n, P, St, m, news, o, w₀, J, rfl, W, hIo, hLI, hI₀, hoff, hcI, ho, hst, F, N, h0, step, hQ⟩ := h₂
  show codeAny _ _ _ (fun r s' => match r with | .ok f => Q f s' | .error e => cameBackBy (model prog w) A env E e s') _
  refine codeAny_forLoop
    (fun k s' => ∃ h' tk m' nx o' w' i, s' = { s₂ with heap := h', toks := tk } ∧ St i h' ∧ Fr h₀ env.locals h' m' ∧ News h₀ env.locals h' ((c, o') :: nx) ∧ o'.data = .cell w' ∧ (∀ p ∈ nx, @Ne Nat p.1 I ∧ @Ne Nat p.1 c) ∧ J i m' nx ∧ i ≤ n ∧ k = n + 1 - i) ?_ (n + 1)
    ⟨s₂.heap, s₂.toks, m, news, o, w₀, 0, rfl, hst, F, N, ho, hoff, h0, Nat.zero_le _, rfl⟩
  rintro k s' ⟨h', tk, m', nx, o', w', i, rfl, hst', F', N', ho', hoff', hJ, hi, rfl⟩
  have next : ∀ h₁ : Heap, (∀ b o, b ∉ [I] → h'.get? b = some o → h₁.get? b = some o) → Fr h₀ env.locals h₁ m' ∧ News h₀ env.locals h₁ ((c, o') :: nx) := fun h₁ hk₁ =>
    ⟨LCg.fr_but F' hk₁ hLI hI₀, LCg.news_but N' hk₁ fun p hp => by
      rcases List.mem_cons.mp hp with rfl | hp
      · exact hcI
      · exact (hoff' p hp).1⟩
  by_cases hlt : i < n
  · refine W.item i _ _ _ hlt hst' fun v h₁ tk₁ hP hst₁ hk₁ => ?_
    obtain ⟨F₁, N₁⟩ := next h₁ hk₁
    have z := N₁ (c, o') (.head _)
    refine wpAny_assign_Name (wpAny_storeName_cell hk hx hc ⟨o', z.1, ho'⟩ fun h₂ hv hs₂ => ?_)
    obtain ⟨o₂, e₂, d₂⟩ := hv
    have F₂ : Fr h₀ env.locals h₂ m' := F₁.change hs₂ z.2.1 z.2.2
    have hst₂ : St (i + 1) h₂ := W.frame _ _ _ hst₁ fun b hb o e => hs₂.extBut b o (fun q => by
      rw [List.mem_singleton.mp hb] at q; exact hcI q.symm) e
    obtain ⟨oI, eI⟩ := hIo _ _ hst₂
    have N₂ : News h₀ env.locals h₂ ((I, oI) :: (c, o₂) :: nx) := fun p hp => by
      rcases List.mem_cons.mp hp with rfl | hp
      · exact ⟨eI, Ne.symm hLI, hI₀⟩
      · rcases List.mem_cons.mp hp with rfl | hp
        · exact ⟨e₂, z.2.1, z.2.2⟩
        · have y := N₁ p (.tail _ hp)
          exact ⟨hs₂.extBut _ _ (hoff' p hp).2 y.1, y.2⟩
    refine wpAny_mono (wpAny_passesOwn hE (step i v m' nx oI o₂ h₂ tk₁ hlt hP hJ hoff' d₂ F₂ N₂)) (fun f s₃ h₃ => ?_) fun _ _ e => e
    have fin : CPost h₀ env.locals { s₂ with heap := h₂, toks := tk₁ } I oI c (J (i + 1)) Q .next s₃ → ∃ k, k < n + 1 - i ∧ ∃ h' tk m' nx o' w' i, s₃ = { s₂ with heap := h', toks := tk } ∧ St i h' ∧ Fr h₀ env.locals h' m' ∧ News h₀ env.locals h' ((c, o') :: nx) ∧ o'.data = .cell w' ∧ (∀ p ∈ nx, @Ne Nat p.1 I ∧ @Ne Nat p.1 c) ∧ J i m' nx ∧ i ≤ n ∧ k = n + 1 - i := by
      rintro ⟨h₄, tk₄, m₄, nx₄, o₄, w₄, rfl, F₄, N₄, d₄, off₄, J₄⟩
      refine ⟨n + 1 - (i + 1), by omega, h₄, tk₄, m₄, nx₄, o₄, w₄, i + 1, rfl, ?_, F₄, fun p hp => N₄ p (.tail _ hp), d₄, off₄, J₄, hlt, rfl⟩
      refine W.frame _ _ _ hst₂ fun b hb o e => ?_
      rw [List.mem_singleton.mp hb] at e ⊢
      rw [eI] at e
      exact (N₄ (I, oI) (.head _)).1.trans e
    cases f with
    | ret v => exact h₃
    | brk => exact h₃
    | cont => exact fin h₃
    | next => exact fin h₃
  · have hin : i = n := by omega
    subst hin
    refine W.done _ _ _ hst' fun h₁ tk₁ hk₁ => wpAny_execs_nil ?_
    obtain ⟨F₁, N₁⟩ := next h₁ hk₁
    exact hQ h₁ tk₁ m' nx o' w' F₁ N₁ ho' (fun p hp => (hoff' p hp).2) hJ
theorem CPost.next {σ : Type} {Led : σ → List (Addr × Obj)} {ps : σ → List (Str × Value)} {stored : List Str} {m₀ m' : Str → Option Value} {P : σ → Prop} {L I : Addr} {it o : Obj} {s₁ : Shared} {h' : Heap} {tk : Nat} {all : List (Addr × Obj)} {w₀ : Option Value} (st : σ)
    (F : Fr h₀ L h' m') (N : News h₀ L h' all) (hP : P st) (hd : o.data = .cell w₀) (sub : ∀ p ∈ (I, it) :: (c, o) :: Led st, p ∈ all) (off : ∀ p ∈ Led st, @Ne Nat p.1 I ∧ @Ne Nat p.1 c) (hk : ∀ p ∈ ps st, m' p.1 = some p.2)
    (hs : ∀ z, z ≠ x → (∀ p ∈ ps st, z ≠ p.1) → stored.contains z = false → m' z = m₀ z) : CPost h₀ L s₁ I it c (LpJ Led ps x stored m₀ P) Q .next { s₁ with heap := h', toks := tk } :=
  ⟨h', tk, m', Led st, o, w₀, rfl, F, fun p hp => N p (sub p hp), hd, off, st, rfl, hP, hk, hs⟩
theorem CPost.ret {L I : Addr} {it : Obj} {s₁ s₂ : Shared} {J : (Str → Option Value) → List (Addr × Obj) → Prop} {v : Value} (h : Q (.ret v) s₂) : CPost h₀ L s₁ I it c J Q (.ret v) s₂ := h
theorem lp_rangeC {σ : Type} {r : Addr} {a₀ b₀ : Int} {t₀ u₀ v₀ : Tok} {n : Nat} {m₀ : Str → Option Value} {o₀ : Obj} {w₀ : Option Value} (Led : σ → List (Addr × Obj)) (ps : σ → List (Str × Value)) (stored : List Str) (P : Nat → σ → Prop) (c₀ : σ) (x : Str)
    (hh : A.handled = none) (hr : IsRange s.heap r a₀ b₀ 1 t₀ u₀ v₀) (hsmall : Builtin.Range.small a₀ b₀ 1 = true) (hn : Builtin.Range.rangeSize a₀ b₀ 1 = (n : Int)) (F : Fr h₀ env.locals s.heap m₀) (N : News h₀ env.locals s.heap ((c, o₀) :: Led c₀)) (ho : o₀.data = .cell w₀) (hoff : ∀ p ∈ Led c₀, @Ne Nat p.1 c) (hk : ∀ p ∈ ps c₀, m₀ p.1 = some p.2) (hp : P 0 c₀)
    (turn : ∀ (st : σ) I it o i t (u : Str → Option Value) h tk, i < n → P i st → o.data = .cell (some (.int (a₀ + (i : Int)) t)) → (∀ p ∈ Led st, @Ne Nat p.1 I ∧ @Ne Nat p.1 c) → @Ne Nat c I →
      Fr h₀ env.locals h (fun y => if y = x then u y else kstB (fun z => if stored.contains z then u z else m₀ z) (ps st) y) → News h₀ env.locals h ((I, it) :: (c, o) :: Led st) →
      wpAny (model prog w) A (execs body env) (CPost h₀ env.locals { s with heap := h, toks := tk } I it c (LpJ Led ps x stored m₀ (P (i + 1))) Q) E { s with heap := h, toks := tk })
    (done : ∀ (st : σ) o w (u : Str → Option Value) h tk, P n st → o.data = .cell w → (∀ p ∈ Led st, @Ne Nat p.1 c) → Fr h₀ env.locals h (fun y => if y = x then u y else kstB (fun z => if stored.contains z then u z else m₀ z) (ps st) y) → News h₀ env.locals h ((c, o) :: Led st) → Q .next { s with heap := h, toks := tk }) :
    wpAny (model prog w) A (pyIter (.ref r)) (fun it s₂ => LoopAtC prog w A h₀ env c body Q E it s₂) E s := by
  refine wpAny_pyIter_range hr hsmall ?_
  have lt : ∀ p ∈ (c, o₀) :: Led c₀, @LT.lt Nat _ p.1 s.heap.objs.size := fun p hp => Heap.lt_size (N p hp).1
  refine ⟨s.heap.objs.size, n, _, _, m₀, Led c₀, o₀, w₀, fun i m nx => LpJ Led ps x stored m₀ (P i) m nx, rfl, LCg.range_walks hh a₀ n, fun i h st => ⟨_, st⟩, Nat.ne_of_lt F.ns.lt, next_is_new F, fun p hp => ⟨Nat.ne_of_lt (lt p (.tail _ hp)), hoff p hp⟩, Nat.ne_of_lt (lt _ (.head _)), ho, (by show IsRangeIter _ _ _ _ _; rw [hn]; simpa using Heap.get?_push_size _ rfl), F.push _, N.grown fun _ _ e => Heap.get?_push_of_some _ e, ⟨c₀, rfl, hp, hk, fun _ _ _ _ => rfl⟩, ?_, ?_⟩
  · rintro i v m₁ nx oI o₁ h tk hi ⟨t, rfl⟩ ⟨st, rfl, hP, h1, h2⟩ hoff' d₁ F₁ N₁
    have hcI : @Ne Nat c s.heap.objs.size := Nat.ne_of_lt (lt _ (.head _))
    exact turn st _ oI o₁ i t m₁ h tk hi hP d₁ hoff' hcI (kst_frOut h1 h2 F₁) N₁
  · rintro h' tk m' nx o' w' F' N' d' hoff' ⟨st, rfl, hP, h1, h2⟩
    exact done st o' w' m' h' tk hP d' hoff' (kst_frOut h1 h2 F') N'
end

set_option maxHeartbeats 2000000
open PyProof.Rows.LCg
/-! a list comprehension over a range, one test, its variable a cell -/
def CompEndC (h₀ : Heap) (L : Addr) (m : Str → Option Value) (s₁ : Shared) (I : Addr) (oI : Obj) (C : Addr) (oC : Obj) (B : Addr) (oB : Obj) (D : Addr) (oD : Obj) (J : Value → List (Addr × Obj) → Prop) (y : Value) (s₂ : Shared) : Prop :=
  ∃ h' tk nx, s₂ = { s₁ with heap := h', toks := tk } ∧ Fr h₀ L h' m ∧ News h₀ L h' ((I, oI) :: (C, oC) :: (B, oB) :: (D, oD) :: nx) ∧ (∀ p ∈ nx, @Ne Nat p.1 I ∧ @Ne Nat p.1 C ∧ @Ne Nat p.1 B ∧ @Ne Nat p.1 D) ∧ J y nx
def TurnsC (prog : Program) (w : World) (A : Around) (h₀ : Heap) (L : Addr) (m : Str → Option Value) (env : Env) (ct elt : PySem.Expr) (x : Str) (scope : Scope) (cl : List (Str × Addr)) (s : Shared) (a : Int) (n : Nat) (Fin : List Value → List (Addr × Obj) → Prop) (news : List (Addr × Obj)) : Prop :=
  ∃ J : Nat → List Value → List (Addr × Obj) → Prop, J 0 [] news ∧
    (∀ i ys nx t I oI C oC B oB D h tk (E' : Value → Shared → Prop), i < n → J i ys nx → oB.data = .cell (some (.int (a + (i : Int)) t)) → Fr h₀ L h m → News h₀ L h ((I, oI) :: (C, oC) :: (B, oB) :: (D, lst ys) :: nx) → (∀ p ∈ nx, @Ne Nat p.1 I ∧ @Ne Nat p.1 C ∧ @Ne Nat p.1 B ∧ @Ne Nat p.1 D) →
      (@Ne Nat I C ∧ @Ne Nat I B ∧ @Ne Nat I D ∧ @Ne Nat C B ∧ @Ne Nat C D ∧ @Ne Nat B D) →
      wpAny (model prog w) A (isTrue ct (compEnvC scope ((x, B) :: cl) C env) (eval ct (compEnvC scope ((x, B) :: cl) C env))) (fun ok s' => if ok = true then
        wpAny (model prog w) A (eval elt (compEnvC scope ((x, B) :: cl) C env)) (CompEndC h₀ L m { s with heap := h, toks := tk } I oI C oC B oB D (lst ys) (fun y nx' => J (i + 1) (ys ++ [y]) nx')) E' s'
        else CompEndC h₀ L m { s with heap := h, toks := tk } I oI C oC B oB D (lst ys) (fun _ nx' => J (i + 1) ys nx') Value.none s') E' { s with heap := h, toks := tk }) ∧
    ∀ ys nx, J n ys nx → Fin ys nx
def SrcC (prog : Program) (w : World) (A : Around) (h₀ : Heap) (L : Addr) (m : Str → Option Value) (env : Env) (ct elt : PySem.Expr) (x : Str) (scope : Scope) (cl : List (Str × Addr)) (Fin : Shared → List Value → List (Addr × Obj) → Prop) (xv : Value) (s₁ : Shared) : Prop :=
  ∃ r a b t u v n news, xv = .ref r ∧ A.handled = none ∧ Fr h₀ L s₁.heap m ∧ News h₀ L s₁.heap news ∧ IsRange s₁.heap r a b 1 t u v ∧ Builtin.Range.small a b 1 = true ∧ Builtin.Range.rangeSize a b 1 = ((n : Nat) : Int) ∧ n ≤ sizeLine ∧
    ∀ s₂ : Shared, (∃ h, s₂ = { s₁ with heap := h }) → TurnsC prog w A h₀ L m env ct elt x scope cl s₂ a n (Fin s₂) news
theorem off1_of {D : Addr} : ∀ {l : List (Addr × Obj)}, (∀ p ∈ l, @Ne Nat p.1 D) → Off1 D l
  | [], _ => trivial
  | _ :: _, h => ⟨h _ (.head _), off1_of fun p hp => h p (.tail _ hp)⟩
theorem newEnvC {M : Model} {A : Around} {E : Value → Shared → Prop} {s : Shared} {scope : Scope} {globals : Addr} {closure : List (Str × Addr)} {qual : Str} {outer : Env} {x : Str} {Q : Env → Shared → Prop}
    (hcf : ∀ k, cellsFrom k scope.names closure = (x, k) :: closure) (hpc : ∀ h, pushCells h scope.names = h.push { cls := .type "cell", data := .cell none })
    (hQ : Q { scope, locals := s.heap.objs.size, globals, cells := (x, s.heap.objs.size + 1) :: closure, qual, func := none, code := outer.code, frame := outer.frame, builtins := outer.builtins } { s with heap := (s.heap.push { cls := .type "dict", data := .dict #[] }).push { cls := .type "cell", data := .cell none } }) :
    wpAny M A (newFunctionEnv scope globals closure [] qual none .none (some outer)) Q E s := by
  simp only [newFunctionEnv, Option.isSome_some, if_true]
  refine wpAny_bind (wpAny_alloc ?_)
  refine wpAny_bind (wpAny_layCells _ (fun name kind cells => by cases hkc : kind == NameKind.cell <;> simp [hkc]) _ _ _ _ ?_)
  rw [hcf, hpc]
  rw [List.forIn_nil]
  refine wpAny_bind (wpAny_pure (wpAny_pure ?_))
  rw [show ({ s with heap := s.heap.push { cls := .type "dict", data := .dict #[] } } : Shared).heap.objs.size = s.heap.objs.size + 1 from Heap.size_push ..]
  exact hQ
section
variable {prog : Program} {w : World} {A : Around} {E : Value → Shared → Prop} {s : Shared} {h₀ : Heap} {L : Addr} {m : Str → Option Value} {env : Env}
theorem block_C {ct elt iter : PySem.Expr} {x : Str} {px : Pos} {scope : Scope} {cl : List (Str × Addr)} {pos : Pos} {s₂ : Shared} {I : Addr} {a : Int} {n : Nat} {news : List (Addr × Obj)}
    {Fin : List Value → List (Addr × Obj) → Prop} {RR : Value → Addr → Result → Shared → Prop} (hh : A.handled = none)
    (hsz : n ≤ sizeLine) (hcf : ∀ k, cellsFrom k scope.names cl = (x, k) :: cl) (hpc : ∀ h, pushCells h scope.names = h.push { cls := .type "cell", data := .cell none }) (hkind : scope.kind = .function) (hx : (relabel scope env).names.lookup x = some .cell)
    (hst : IsRangeIter s₂.heap I (a + ((0 : Nat) : Int) * 1) ((n : Int) - ((0 : Nat) : Int)) 1) (hIlt : I < s₂.heap.objs.size)
    (F : Fr h₀ L s₂.heap m) (N : News h₀ L s₂.heap news) (hIL : L ≠ I) (hI₀ : h₀.get? I = none) (off : ∀ p ∈ news, p.1 ≠ I)
    (R : TurnsC prog w A h₀ L m env ct elt x scope cl s₂ a n Fin news)
    (hRR : ∀ D C h tk m' ys news', Fr h₀ L h m → News h₀ L h ((D, lst ys) :: news') → Off1 D news' → h.Ns C m' → h₀.get? C = none → h₀.get? D = none → C ≠ L → D ≠ L → C ≠ D → (∀ p ∈ news', p.1 ≠ C) → Fin ys news' → RR (.ref D) C (.ok .next) { s₂ with heap := h, toks := tk }) :
    wpAny (model prog w) A (newList []) (fun acc s₃ => wpAny (model prog w) A (newFunctionEnv scope env.globals cl [] env.qual none .none (some env)) (fun cenv s₄ =>
      codeAny (model prog w) A (.compStart (.ListComp elt [⟨.Name x px, iter, [ct], 0⟩] scope pos) 0 (.ref I) acc { cenv with scope := relabel scope env }) (RR acc cenv.locals) s₄) E s₃) E s₂ := by
  obtain ⟨J, hJ0, hturn, hfin⟩ := R
  refine wpAny_newObj_type (newEnvC hcf hpc ?_)
  dsimp only
  generalize hH2 : s₂.heap.push { cls := .type "list", dict := none, data := .seq ([] : List Value).toArray } = H2
  have hC : H2.objs.size = s₂.heap.objs.size + 1 := by rw [← hH2, Heap.size_push]
  have up2 : ∀ b o, s₂.heap.get? b = some o → H2.get? b = some o := fun b o e => hH2 ▸ Heap.get?_push_of_some _ e
  have eD : H2.get? s₂.heap.objs.size = some (lst []) := hH2 ▸ Heap.get?_push_size _ rfl
  generalize hH3 : H2.push { cls := .type "dict", data := .dict #[] } = H3
  have hB : H3.objs.size = H2.objs.size + 1 := by rw [← hH3, Heap.size_push]
  have up3 : ∀ b o, H2.get? b = some o → H3.get? b = some o := fun b o e => hH3 ▸ Heap.get?_push_of_some _ e
  have nC : H3.Ns H2.objs.size (fun _ => none) := hH3 ▸ Heap.Ns.new ..
  rw [← hB]
  generalize hH4 : H3.push { cls := .type "cell", data := .cell none } = H4
  have up4 : ∀ b o, H3.get? b = some o → H4.get? b = some o := fun b o e => hH4 ▸ Heap.get?_push_of_some _ e
  have eB : H4.get? H3.objs.size = some { cls := .type "cell", data := .cell none } := hH4 ▸ Heap.get?_push_size _ rfl
  have nC4 : H4.Ns H2.objs.size (fun _ => none) := nC.keeps up4
  have old : ∀ b o, s₂.heap.get? b = some o → H4.get? b = some o := fun b o e => up4 b o (up3 b o (up2 b o e))
  have eD4 : H4.get? s₂.heap.objs.size = some (lst []) := up4 _ _ (up3 _ _ eD)
  have fresh₀ : ∀ a, s₂.heap.objs.size ≤ a → h₀.get? a = none := fun a ha => by
    cases e : h₀.get? a with
    | none => rfl
    | some o' =>
      have q := Heap.lt_size (F.keep a o' e)
      exact absurd q (Nat.not_lt.mpr ha)
  generalize hDg : s₂.heap.objs.size = D at *
  generalize hCg : H2.objs.size = C at *
  generalize hBg : H3.objs.size = B at *
  have lCD : @LT.lt Nat _ D C := by rw [hC]; exact Nat.lt_succ_self _
  have lBC : @LT.lt Nat _ C B := by rw [hB]; exact Nat.lt_succ_self _
  have lID : @LT.lt Nat _ I D := hIlt
  have lLD : @LT.lt Nat _ L D := hDg ▸ F.ns.lt
  have lnD : ∀ p ∈ news, @LT.lt Nat _ p.1 D := fun p hp => hDg ▸ Heap.lt_size (N p hp).1
  have hD₀ : h₀.get? D = none := fresh₀ _ (Nat.le_refl _)
  have hC₀ : h₀.get? C = none := fresh₀ _ (Nat.le_of_lt lCD)
  have hB₀ : h₀.get? B = none := fresh₀ _ (Nat.le_of_lt (Nat.lt_trans lCD lBC))
  have nIC : @Ne Nat I C := by omega
  have nIB : @Ne Nat I B := by omega
  have nID : @Ne Nat I D := by omega
  have nCB : @Ne Nat C B := by omega
  have nCD : @Ne Nat C D := by omega
  have nBD : @Ne Nat B D := by omega
  have nCL : @Ne Nat C L := by omega
  have nBL : @Ne Nat B L := by omega
  have nDL : @Ne Nat D L := by omega
  have W := range_walks (prog := prog) (w := w) (A := A) (I := I) hh a n
  have hst4 : IsRangeIter H4 I (a + ((0 : Nat) : Int) * 1) ((n : Int) - ((0 : Nat) : Int)) 1 := old _ _ hst
  have loop : ∀ s₃ : Shared, s₃ = { s₂ with heap := H4 } →
      codeAny (model prog w) A (.compLoop (.ListComp elt [⟨.Name x px, iter, [ct], 0⟩] scope pos) 0 (.ref I) (.ref D) (compEnvC scope ((x, B) :: cl) C env)) (RR (.ref D) C) s₃ := by
    rintro s₃ rfl
    refine codeAny_compLoop_tests
      (fun k s' => ∃ h' tk i ys m' nx oB wB, s' = { s₂ with heap := h', toks := tk } ∧ i ≤ n ∧ k = n + 1 - i ∧ ys.length ≤ i ∧ IsRangeIter h' I (a + (i : Nat) * 1) ((n : Int) - (i : Nat)) 1 ∧ Fr h₀ L h' m ∧ h'.Ns C m' ∧ h'.get? B = some oB ∧ oB.data = .cell wB ∧ News h₀ L h' ((D, lst ys) :: nx) ∧
        (∀ p ∈ nx, @Ne Nat p.1 I ∧ @Ne Nat p.1 C ∧ @Ne Nat p.1 B ∧ @Ne Nat p.1 D) ∧ J i ys nx) ?_ (n + 1)
      ⟨H4, s₂.toks, 0, [], _, news, _, _, rfl, Nat.zero_le _, rfl, Nat.le_refl _, hst4, F.keeps old, nC4, eB, rfl, ?_, ?_, hJ0⟩
    · rintro k s' ⟨h', tk, i, ys, m', nx, oB, wB, rfl, hi, rfl, hyl, hst', F', hn', hB', dB, N', off', hJ⟩
      by_cases hlt : i < n
      · refine W.item i _ _ _ hlt hst' fun v h₂ tk₂ hPv hst₂ hk₂ => ?_
        obtain ⟨t, rfl⟩ := hPv
        have keep2 : ∀ b o, @Ne Nat b I → h'.get? b = some o → h₂.get? b = some o := fun b o hb e => hk₂ b o (by simpa using hb) e
        refine wpAny_assign_Name (wpAny_storeName_cell (env := compEnvC scope ((x, B) :: cl) C env) (name := x) (c := B) hkind hx (by show List.lookup x ((x, B) :: cl) = some B; simp [List.lookup_cons]) ⟨oB, keep2 B oB (Ne.symm nIB) hB', dB⟩ fun h₃ hv₃ hs₃ => ?_)
        obtain ⟨oB₃, eB₃, dB₃⟩ := hv₃
        refine wpAny_tests_one ?_
        have keep3 : ∀ b o, @Ne Nat b I → @Ne Nat b B → h'.get? b = some o → h₃.get? b = some o := fun b o hb hb2 e => hs₃.extBut b o hb2 (keep2 b o hb e)
        have hst₃ : IsRangeIter h₃ I (a + ((i + 1 : Nat) : Int) * 1) ((n : Int) - ((i + 1 : Nat) : Int)) 1 := hs₃.extBut _ _ nIB hst₂
        have nC₃ : h₃.Ns C m' := (hn'.at' fun o e => keep2 C o (Ne.symm nIC) e).sameBut hs₃ nCB
        obtain ⟨oC, eC₃, hoC⟩ := ns_obj nC₃
        have F₃ : Fr h₀ L h₃ m := (fr_but F' hk₂ hIL hI₀).change hs₃ nBL hB₀
        have N₃ : News h₀ L h₃ ((I, _) :: (C, oC) :: (B, oB₃) :: (D, lst ys) :: nx) := fun p hp => by
          rcases List.mem_cons.mp hp with rfl | hp
          · exact ⟨hst₃, Ne.symm hIL, hI₀⟩
          · rcases List.mem_cons.mp hp with rfl | hp
            · exact ⟨eC₃, nCL, hC₀⟩
            · rcases List.mem_cons.mp hp with rfl | hp
              · exact ⟨eB₃, nBL, hB₀⟩
              · have z := N' p hp
                rcases List.mem_cons.mp hp with rfl | hp
                · exact ⟨keep3 _ _ (Ne.symm nID) (Ne.symm nBD) z.1, z.2⟩
                · have y := off' p hp
                  exact ⟨keep3 _ _ y.1 y.2.2.1 z.1, z.2⟩
        refine wpAny_mono (hturn i ys nx t I _ C oC B oB₃ D h₃ tk₂ _ hlt hJ dB₃ F₃ N₃ off' ⟨nIC, nIB, nID, nCB, nCD, nBD⟩) (fun ok s₄ h₄ => ?_) fun _ _ e => e
        cases ok with
        | true =>
          simp only [if_true] at h₄ ⊢
          refine wpAny_mono h₄ (fun y s₅ h₅ => ?_) fun _ _ e => e
          obtain ⟨h₄, tk₄, nx₄, rfl, F₄, N₄, off₄, J₄⟩ := h₅
          have zI := (N₄ _ (.head _)).1
          have zC := (N₄ (C, oC) (.tail _ (.head _))).1
          have zB := (N₄ (B, oB₃) (.tail _ (.tail _ (.head _)))).1
          have zD := (N₄ (D, lst ys) (.tail _ (.tail _ (.tail _ (.head _))))).1
          refine append_at (hsz := by show ys.toArray.size ≤ sizeLine; rw [List.size_toArray]; exact Nat.le_trans (Nat.le_trans hyl hi) hsz) zD fun h₅ hs₅ hD₅ => ?_
          refine ⟨n + 1 - (i + 1), by omega, h₅, tk₄, i + 1, ys ++ [y], _, nx₄, oB₃, _, rfl, hlt, rfl, by rw [List.length_append, List.length_singleton]; exact Nat.succ_le_succ hyl, hs₅.extBut _ _ nID zI, F₄.change hs₅ nDL hD₀, (hoC.ns zC).sameBut hs₅ nCD, hs₅.extBut _ _ nBD zB, dB₃, fun p hp => ?_, off₄, J₄⟩
          rcases List.mem_cons.mp hp with rfl | hp
          · exact ⟨hD₅.trans (congrArg some (lst_snoc ys y)), nDL, hD₀⟩
          · have z := N₄ p (.tail _ (.tail _ (.tail _ (.tail _ hp))))
            exact ⟨hs₅.extBut _ _ (off₄ p hp).2.2.2 z.1, z.2⟩
        | false =>
          simp only [Bool.false_eq_true, if_false] at h₄ ⊢
          obtain ⟨h₅, tk₄, nx₄, rfl, F₄, N₄, off₄, J₄⟩ := h₄
          have zI := (N₄ _ (.head _)).1
          have zC := (N₄ (C, oC) (.tail _ (.head _))).1
          have zB := (N₄ (B, oB₃) (.tail _ (.tail _ (.head _)))).1
          exact ⟨n + 1 - (i + 1), by omega, h₅, tk₄, i + 1, ys, _, nx₄, oB₃, _, rfl, hlt, rfl, Nat.le_succ_of_le hyl, zI, F₄, hoC.ns zC, zB, dB₃, fun p hp => N₄ p (.tail _ (.tail _ (.tail _ hp))), off₄, J₄⟩
      · obtain rfl : i = n := Nat.le_antisymm hi (Nat.not_lt.mp hlt)
        refine W.done _ _ _ hst' fun h₂ tk₂ hk₂ => ?_
        refine hRR D C h₂ tk₂ _ ys nx (fr_but F' hk₂ hIL hI₀) (news_but N' hk₂ fun p hp => ?_) (off1_of fun p hp => (off' p hp).2.2.2) (hn'.at' fun o e => hk₂ _ o (by simpa using Ne.symm nIC) e) hC₀ hD₀ nCL nDL nCD (fun p hp => (off' p hp).2.1) (hfin _ _ hJ)
        rcases List.mem_cons.mp hp with rfl | hp
        · exact Ne.symm nID
        · exact (off' p hp).1
    · intro p hp
      rcases List.mem_cons.mp hp with rfl | hp
      · exact ⟨eD4, nDL, hD₀⟩
      · exact ⟨old _ _ (N p hp).1, (N p hp).2⟩
    · intro p hp
      have q := lnD p hp
      exact ⟨off p hp, by omega, by omega, by omega⟩
  exact codeAny_compStart_list (loop _ rfl) (W.self 0 _ _ _ hst4 (loop _ rfl))
theorem Assign_C {ct elt iter : PySem.Expr} {x y : Str} {px py : Pos} {scope : Scope} {cl : List (Str × Addr)} {pos spos : Pos} {Q : Flow → Shared → Prop} (F₀ : Fr h₀ L s.heap m) (hLe : env.locals = L)
    (hsw : swapsWith (.ListComp elt [⟨.Name x px, iter, [ct], 0⟩] scope pos) (some (.Name y py)) spos.line env = pure true)
    (hclos : closureFor scope env = pure cl) (hcf : ∀ k, cellsFrom k scope.names cl = (x, k) :: cl) (hpc : ∀ h, pushCells h scope.names = h.push { cls := .type "cell", data := .cell none }) (hkind : scope.kind = .function)
    (hnames : ∀ z ∈ scope.names, z.2 = .local → scope.names.lookup z.1 = some .local) (hx : (relabel scope env).names.lookup x = some .cell)
    (hy : env.kindOf y = some .local) (hp : (env.scope.kind == .class || (env.scope.kind == .module && env.locals != env.globals)) = false)
    (h : wpAny (model prog w) A (eval iter env) (SrcC prog w A h₀ L m env ct elt x scope cl (fun s₂ => FinA h₀ L m s₂ y Q)) E s)
    (hs : ∀ x, foldedSetIterable iter env x = pure x := by intro _; rfl) :
    wpAny (model prog w) A (exec (.Assign [.Name y py] (.ListComp elt [⟨.Name x px, iter, [ct], 0⟩] scope pos) spos) env) Q E s := by
  subst hLe
  rw [exec_Assign_Name_used _ _ _ _ hsw]
  refine wpAny_bind (wpAny_standAt (wpAny_bind ?_))
  show wpAny _ A (do let _ ← comprehension (.ListComp elt [⟨.Name x px, iter, [ct], 0⟩] scope pos) scope env _ (newList []) false (eval iter env) (some (assign (.Name y py) env))) _ _ s
  refine wpAny_bind (wpAny_mono (wpAny_comprehension_free (use := some (assign (.Name y py) env)) (Q := fun _ s' => Q .next s') rfl hs hclos hkind hnames
    (wpAny_mono h (fun xv s₁ h₁ => ?_) fun _ _ e => e)) (fun _ s' hq => wpAny_pure (wpAny_pure hq)) fun _ _ e => e)
  obtain ⟨r, a, b, t, u, v, n, news, rfl, hh, F, N, hr, hsm, hn, hsz, R⟩ := h₁
  refine wpAny_pyIter_range hr hsm ?_
  refine block_C hh hsz hcf hpc hkind hx (by show IsRangeIter _ _ _ _ _; rw [hn]; simpa using Heap.get?_push_size _ rfl) (by
      show s₁.heap.objs.size < (s₁.heap.push _).objs.size
      rw [Heap.size_push]; exact Nat.lt_succ_self _)
    (F.keeps fun _ _ e => Heap.get?_push_of_some _ e) (N.grown fun _ _ e => Heap.get?_push_of_some _ e) (Nat.ne_of_lt F.ns.lt) (next_is_new F) (fun p hp => Nat.ne_of_lt (Heap.lt_size (N p hp).1)) (R _ ⟨_, rfl⟩) ?_
  intro D C h' tk m' ys news' F' N' o1 hn hC₀ hD₀ hCL hDL hCD offC fin
  show wpAny _ A (assign (.Name y py) env (.ref D)) _ _ _
  refine wpAny_assign_Name (wpAny_storeName_local hy F'.ns (fun h₂ hn₂ hs₂ => ?_) hp)
  have hL₀ : h₀.get? env.locals = none := Heap.get?_none_of_le F'.above
  have F₂ : Fr h₀ env.locals h₂ (fun z => if z = y then some (.ref D) else m z) := ⟨hn₂, fun b o e => hs₂.extBut b o (fun q => by rw [q, hL₀] at e; cases e) (F'.keep b o e), F'.above⟩
  refine ⟨m', hn.sameBut hs₂ hCL, fun h'' hs'' => fin D h'' _ (F₂.change hs'' hCL hC₀) (fun p hp => ?_) o1⟩
  have z : h₂.get? p.1 = some p.2 := hs₂.extBut _ _ (N' p hp).2.1 (N' p hp).1
  refine ⟨hs''.extBut _ _ ?_ z, (N' p hp).2⟩
  rcases List.mem_cons.mp hp with rfl | hp
  · exact Ne.symm hCD
  · exact offC p hp
/-- the comprehension, put together by an invariant over its states -/
theorem turns_C {σ : Type} {ct elt : PySem.Expr} {x : Str} {scope : Scope} {cl : List (Str × Addr)} {a : Int} {n : Nat} {Fin : List Value → List (Addr × Obj) → Prop} (Led : σ → List (Addr × Obj)) (P : Nat → List Value → σ → Prop) (c₀ : σ) (h0 : P 0 [] c₀)
    (turn : ∀ (c : σ) i ys t I oI C oC B oB D h tk (E' : Value → Shared → Prop), i < n → P i ys c → oB.data = .cell (some (.int (a + (i : Int)) t)) → Fr h₀ L h m → News h₀ L h ((I, oI) :: (C, oC) :: (B, oB) :: (D, lst ys) :: Led c) → (∀ p ∈ Led c, @Ne Nat p.1 I ∧ @Ne Nat p.1 C ∧ @Ne Nat p.1 B ∧ @Ne Nat p.1 D) →
      (@Ne Nat I C ∧ @Ne Nat I B ∧ @Ne Nat I D ∧ @Ne Nat C B ∧ @Ne Nat C D ∧ @Ne Nat B D) →
      wpAny (model prog w) A (isTrue ct (compEnvC scope ((x, B) :: cl) C env) (eval ct (compEnvC scope ((x, B) :: cl) C env))) (fun ok s' => if ok = true then
        wpAny (model prog w) A (eval elt (compEnvC scope ((x, B) :: cl) C env)) (CompEndC h₀ L m { s with heap := h, toks := tk } I oI C oC B oB D (lst ys) (fun y nx' => ∃ c', nx' = Led c' ∧ P (i + 1) (ys ++ [y]) c')) E' s'
        else CompEndC h₀ L m { s with heap := h, toks := tk } I oI C oC B oB D (lst ys) (fun _ nx' => ∃ c', nx' = Led c' ∧ P (i + 1) ys c') Value.none s') E' { s with heap := h, toks := tk })
    (done : ∀ (c : σ) ys, P n ys c → Fin ys (Led c)) : TurnsC prog w A h₀ L m env ct elt x scope cl s a n Fin (Led c₀) := by
  refine ⟨fun i ys nx => ∃ c, nx = Led c ∧ P i ys c, ⟨c₀, rfl, h0⟩, ?_, ?_⟩
  · rintro i ys nx t I oI C oC B oB D h tk E' hi ⟨c, rfl, hP⟩ dB F N off ne
    exact turn c i ys t I oI C oC B oB D h tk E' hi hP dB F N off ne
  · rintro ys nx ⟨c, rfl, hP⟩
    exact done c ys hP
theorem CompEndC.put {σ : Type} {Led : σ → List (Addr × Obj)} {I C B D : Addr} {oI oC oB oD : Obj} {s₁ : Shared} {h' : Heap} {tk : Nat} {all : List (Addr × Obj)} {y : Value} (c : σ)
    (F : Fr h₀ L h' m) (N : News h₀ L h' all) (sub : ∀ p ∈ (I, oI) :: (C, oC) :: (B, oB) :: (D, oD) :: Led c, p ∈ all) (off : ∀ p ∈ Led c, @Ne Nat p.1 I ∧ @Ne Nat p.1 C ∧ @Ne Nat p.1 B ∧ @Ne Nat p.1 D) (J : Value → List (Addr × Obj) → Prop) (hP : J y (Led c)) :
    CompEndC h₀ L m s₁ I oI C oC B oB D oD J y { s₁ with heap := h', toks := tk } :=
  ⟨h', tk, Led c, rfl, F, fun p hp => N p (sub p hp), off, hP⟩
/-- the kit's comprehension with one test, by an invariant -/
theorem cp_restT {σ : Type} {ct elt : PySem.Expr} {x : Str} {scope : Scope} {cl : List (Str × Addr)} {S : List (Addr × Obj) → Prop} {V : Nat → Value → Prop} {Fin : List Value → List (Addr × Obj) → Prop} {n : Nat} (Led : σ → List (Addr × Obj)) (P : Nat → List Value → σ → Prop)
    (turn : ∀ (c : σ) i ys v I oI C oC D m₂ h tk (E' : Value → Shared → Prop), i < n → V i v → P i ys c → LCg.NsObj oC m₂ → m₂ x = some v → Fr h₀ L h m → News h₀ L h ((I, oI) :: (C, oC) :: (D, LCg.lst ys) :: Led c) → (∀ p ∈ Led c, p.1 ≠ I ∧ p.1 ≠ C ∧ p.1 ≠ D) → ((@Ne Nat I C) ∧ (@Ne Nat I D) ∧ (@Ne Nat C D)) →
      wpAny (model prog w) A (isTrue ct (compEnvC scope cl C env) (eval ct (compEnvC scope cl C env))) (fun ok s' => if ok = true then
        wpAny (model prog w) A (eval elt (compEnvC scope cl C env)) (CpEnd h₀ L m { s with heap := h, toks := tk } I oI C oC D (LCg.lst ys) S (fun y nx => ∃ c', nx = Led c' ∧ P (i + 1) (ys ++ [y]) c')) E' s'
        else CpEnd h₀ L m { s with heap := h, toks := tk } I oI C oC D (LCg.lst ys) S (fun _ nx => ∃ c', nx = Led c' ∧ P (i + 1) ys c') Value.none s') E' { s with heap := h, toks := tk })
    (done : ∀ (c : σ) ys, P n ys c → Fin ys (Led c)) :
    ∀ (k i : Nat) (ys : List Value) (c : σ), i + k = n → P i ys c → LCt.CompRestT prog w A h₀ L m env ct elt x scope cl s S V Fin k i ys (Led c) := by
  intro k
  induction k with
  | zero =>
    intro i ys c hi hP
    obtain rfl : i = n := by omega
    exact LCt.CompRestT.zero (done c ys hP)
  | succ k ih =>
    intro i ys c hi hP
    refine LCt.CompRestT.succ fun v I oI C oC D m₂ h tk E' hv hC hx F N off ne => wpAny_mono (turn c i ys v I oI C oC D m₂ h tk E' (by omega) hv hP hC hx F N (LCg.Off3.mem off) ne) (fun ok s₂ p => ?_) fun _ _ e => e
    cases ok with
    | true =>
      simp only [if_true] at p ⊢
      refine wpAny_mono p (fun y s₃ q => ?_) fun _ _ e => e
      obtain ⟨h', tk', nx, e, F', N', o', S', c', rfl, hP'⟩ := q
      exact ⟨h', tk', Led c', e, F', N', o', S', ih (i + 1) _ c' (by omega) hP'⟩
    | false =>
      simp only [Bool.false_eq_true, if_false] at p ⊢
      obtain ⟨h', tk', nx, e, F', N', o', S', c', rfl, hP'⟩ := p
      exact ⟨h', tk', Led c', e, F', N', o', S', ih (i + 1) _ c' (by omega) hP'⟩
end

/-! plain: what the law asks, for the counts from one to twelve -/
noncomputable def idxF (ns : List Int) (k : Int) : Int := ((ns.idxOf k : Nat) : Int)
noncomputable def addKey (l : List Int) (k : Int) : List Int := if k ∈ l then l else l ++ [k]
noncomputable def keysF (ks : List Int) : List Int := ks.foldl addKey []
noncomputable def leastT (ks : List Int) : Nat → List Int
  | 0 => []
  | i + 1 => if ks.getD i 0 ∈ ks.take i then leastT ks i else insL (leastT ks i) i
noncomputable def keepF (ks : List Int) (r : Int) : Int := idxF ks (ks.getD r.toNat 0)
noncomputable def tellF (n one other j rest : Int) : Bool := ((one * 2 ^ j.toNat + rest).fmod n == 0) != ((other * 2 ^ j.toNat + rest).fmod n == 0)
noncomputable def innerF (n one other j : Int) : List Int := (rangeKs 0 (2 ^ j.toNat)).filter (tellF n one other j)
noncomputable def endsF (n often one other : Int) : List Int := (rangeKs 0 (often + 2).toNat).filter fun j => !(innerF n one other j).isEmpty
noncomputable def rows12 : List (Nat × List Int × Int × Int) := [(1, [0], 1, 0), (2, [0, 1], 1, 1), (3, [0, 1, 2], 3, 0), (4, [0, 1, 2, 1], 1, 2), (5, [0, 1, 2, 3, 4], 5, 0), (6, [0, 1, 2, 3, 1, 2], 3, 1), (7, [0, 1, 2, 3, 4, 5, 6], 7, 0), (8, [0, 1, 2, 1, 3, 1, 2, 1], 1, 3), (9, [0, 1, 2, 3, 4, 5, 6, 7, 8], 9, 0), (10, [0, 1, 2, 3, 4, 5, 1, 2, 3, 4], 5, 1), (11, [0, 1, 2, 3, 4, 5, 6, 7, 8, 9, 10], 11, 0), (12, [0, 1, 2, 3, 1, 2, 4, 1, 2, 3, 1, 2], 3, 2)]
noncomputable def steps12 : List (Int × Int × Int) := [(1, 1, 0), (2, 2, 0), (2, 1, 1), (3, 3, 0), (4, 4, 0), (4, 2, 1), (4, 1, 2), (5, 5, 0), (6, 6, 0), (6, 3, 1), (7, 7, 0), (8, 8, 0), (8, 4, 1), (8, 2, 2), (8, 1, 3), (9, 9, 0), (10, 10, 0), (10, 5, 1), (11, 11, 0), (12, 12, 0), (12, 6, 1), (12, 3, 2)]
noncomputable def upto (n : Nat) (p : Int → Bool) : Bool := (List.range n).all fun i => p (i : Int)
theorem upto_at {n : Nat} {p : Int → Bool} (h : upto n p = true) {k : Int} (h0 : 0 ≤ k) (h1 : k < n) : p k = true := by
  have := List.all_eq_true.mp h k.toNat (List.mem_range.mpr (by omega))
  rwa [Int.toNat_of_nonneg h0] at this
noncomputable def chkK (c : Nat × List Int × Int × Int) : Bool :=
  kindsF c.1 == c.2.1
noncomputable def chk1 (n : Nat) (ks : List Int) (odd often : Int) : Bool :=
  (decide (0 ≤ often) && decide (often ≤ 3) && decide (1 ≤ odd) && decide (odd ≤ 12) && ks.length == n) && (((keysF ks).length : Int) == odd + often) && (leastT ks n == (rangeKs 0 (odd + often).toNat).map (idxF ks))
    && upto (odd + often).toNat (fun k => ks.contains k)
noncomputable def chk2 (n : Nat) (ks : List Int) : Bool :=
  upto n (fun r => upto 2 fun f => ks.getD ((2 * keepF ks r + f) % (n : Int)).toNat 0 == ks.getD ((2 * r + f) % (n : Int)).toNat 0)
    && upto n (fun r => decide (bisL (leastT ks n) (keepF ks r) < (leastT ks n).length) && (leastT ks n).getD (bisL (leastT ks n) (keepF ks r)).toNat 0 == keepF ks r)
    && upto n (fun r => decide (0 ≤ keepF ks r) && decide (keepF ks r < n) && ks.getD (keepF ks r).toNat 0 == ks.getD r.toNat 0 && (decide (keepF ks r = 0) == decide (r = 0)))
noncomputable def chk3 (n : Nat) (ks : List Int) (often : Int) : Bool :=
  upto n fun one => upto one.toNat fun other => if ks.getD one.toNat 0 = ks.getD other.toNat 0 then (endsF n often one other).isEmpty else true
theorem rows12_k : rows12.all chkK = true := by decide +kernel
theorem rows12_1 : (rows12.all fun c => chk1 c.1 c.2.1 c.2.2.1 c.2.2.2) = true := by decide +kernel
theorem rows12_2 : (rows12.all fun c => chk2 c.1 c.2.1) = true := by decide +kernel
theorem rows12_3 : (rows12.all fun c => chk3 c.1 c.2.1 c.2.2.2) = true := by decide +kernel
theorem rows12_at : ((List.range 12).all fun i => rows12.any fun c => c.1 == i + 1) = true := by decide +kernel
theorem steps12_up : (steps12.all fun c => if c.2.1.fmod 2 = 0 then steps12.contains (c.1, c.2.1.fdiv 2, c.2.2 + 1) && decide ((c.2.1.fdiv 2).toNat < c.2.1.toNat) else rows12.any fun r => ((r.1 : Int), r.2.2) == c) = true := by decide +kernel
theorem steps12_lo : (steps12.all fun c => decide (1 ≤ c.2.1) && decide (c.2.1 ≤ 12) && decide (0 ≤ c.2.2) && decide (c.2.2 ≤ 3)) = true := by decide +kernel
theorem steps12_in : (upto 12 fun i => steps12.contains (1 + i, 1 + i, 0)) = true := by decide +kernel
/-- all that is asked of the kinds of a count whose odd part and twos are these -/
structure Good (n : Nat) (odd often : Int) : Prop where
  o0 : 0 ≤ often
  o1 : often ≤ 3
  d0 : 1 ≤ odd
  d1 : odd ≤ 12
  many : ((keysF (kindsF n)).length : Int) = odd + often
  lst : leastT (kindsF n) n = (rangeKs 0 (odd + often).toNat).map (idxF (kindsF n))
  mem : ∀ k, 0 ≤ k → k < odd + often → k ∈ kindsF n
  cong : ∀ r f, 0 ≤ r → r < (n : Int) → 0 ≤ f → f < 2 → (kindsF n).getD ((2 * keepF (kindsF n) r + f) % (n : Int)).toNat 0 = (kindsF n).getD ((2 * r + f) % (n : Int)).toNat 0
  bis : ∀ r, 0 ≤ r → r < (n : Int) → bisL (leastT (kindsF n) n) (keepF (kindsF n) r) < (leastT (kindsF n) n).length ∧ (leastT (kindsF n) n).getD (bisL (leastT (kindsF n) n) (keepF (kindsF n) r)).toNat 0 = keepF (kindsF n) r
  keep : ∀ r, 0 ≤ r → r < (n : Int) → 0 ≤ keepF (kindsF n) r ∧ keepF (kindsF n) r < (n : Int) ∧ (kindsF n).getD (keepF (kindsF n) r).toNat 0 = (kindsF n).getD r.toNat 0 ∧ (keepF (kindsF n) r = 0 ↔ r = 0)
  ends : ∀ one other, 0 ≤ one → one < (n : Int) → 0 ≤ other → other < one → (kindsF n).getD one.toNat 0 = (kindsF n).getD other.toNat 0 → endsF n often one other = []
theorem good_of {n : Nat} {ks : List Int} {odd often : Int} (h : (n, ks, odd, often) ∈ rows12) : Good n odd often := by
  have hk := List.all_eq_true.mp rows12_k _ h
  have h1 := List.all_eq_true.mp rows12_1 _ h
  have h2 := List.all_eq_true.mp rows12_2 _ h
  have h3 := List.all_eq_true.mp rows12_3 _ h
  simp only [chkK, beq_iff_eq] at hk
  subst hk
  simp only [chk1, Bool.and_eq_true, decide_eq_true_eq, beq_iff_eq] at h1
  simp only [chk2, Bool.and_eq_true] at h2
  obtain ⟨⟨⟨⟨⟨⟨⟨a1, a2⟩, a3⟩, a4⟩, _⟩, a5⟩, a6⟩, a7⟩ := h1
  obtain ⟨⟨b1, b2⟩, b3⟩ := h2
  refine ⟨a1, a2, a3, a4, a5, a6, fun k k0 k1 => ?_, fun r f r0 r1 f0 f1 => ?_, fun r r0 r1 => ?_, fun r r0 r1 => ?_, fun one other p0 p1 q0 q1 e => ?_⟩
  · have := upto_at a7 k0 (by omega)
    simpa using this
  · have := upto_at (upto_at b1 r0 r1) f0 f1
    simpa using this
  · have := upto_at b2 r0 r1
    simpa using this
  · have := upto_at b3 r0 r1
    simp only [Bool.and_eq_true, decide_eq_true_eq, beq_iff_eq, decide_eq_decide] at this
    exact ⟨this.1.1.1, this.1.1.2, this.1.2, this.2⟩
  · have := upto_at (upto_at h3 p0 p1) q0 (by omega)
    simp only [if_pos e, List.isEmpty_iff] at this
    exact this
abbrev WhW (n odd often : Int) : Prop := 1 ≤ odd ∧ odd ≤ 12 ∧ 0 ≤ often ∧ often ≤ 3 ∧ (n, odd, often) ∈ steps12
theorem wh_of {n odd often : Int} (h : (n, odd, often) ∈ steps12) : WhW n odd often := by
  have := List.all_eq_true.mp steps12_lo _ h
  simp only [Bool.and_eq_true, decide_eq_true_eq] at this
  exact ⟨this.1.1.1, this.1.1.2, this.1.2, this.2, h⟩
theorem wh_start {n : Int} (h0 : 1 ≤ n) (h1 : n ≤ 12) : WhW n n 0 := by
  have := upto_at steps12_in (k := n - 1) (by omega) (by omega)
  rw [show 1 + (n - 1) = n by omega] at this
  exact wh_of (by simpa using this)
theorem wh_up {n odd often : Int} (h : (n, odd, often) ∈ steps12) (he : odd.fmod 2 = 0) : WhW n (odd.fdiv 2) (often + 1) := by
  have := List.all_eq_true.mp steps12_up _ h
  simp only [if_pos he, Bool.and_eq_true] at this
  exact wh_of (by simpa using this.1)
theorem wh_mu {n odd often : Int} (h : (n, odd, often) ∈ steps12) (he : odd.fmod 2 = 0) : (odd.fdiv 2).toNat < odd.toNat := by
  have := List.all_eq_true.mp steps12_up _ h
  simp only [if_pos he, Bool.and_eq_true, decide_eq_true_eq] at this
  exact this.2
theorem wh_end {n : Nat} {odd often : Int} (h : ((n : Int), odd, often) ∈ steps12) (he : ¬ odd.fmod 2 = 0) : Good n odd often := by
  have := List.all_eq_true.mp steps12_up _ h
  simp only [if_neg he, List.any_eq_true] at this
  obtain ⟨⟨n', ks, o, e⟩, hr, q⟩ := this
  simp only [beq_iff_eq, Prod.mk.injEq] at q
  obtain ⟨q1, q2, q3⟩ := q
  have : n' = n := by omega
  subst this q2 q3
  exact good_of hr
/-! dict: the number of unlike keys -/
theorem keys_stored (acc : List (Int × Value)) (k : Int) (v : Value) : (stored acc k v).map (·.1) = addKey (acc.map (·.1)) k := by
  unfold stored addKey
  by_cases h : (acc.any fun kv => decide (kv.1 = k)) = true
  · have hm : k ∈ acc.map (·.1) := by
      obtain ⟨kv, hkv, e⟩ := List.any_eq_true.mp h
      exact List.mem_map.mpr ⟨kv, hkv, of_decide_eq_true e⟩
    rw [if_pos h, if_pos hm, keys_map_store]
  · have hm : ¬ k ∈ acc.map (·.1) := fun q => h (by
      obtain ⟨kv, hkv, e⟩ := List.mem_map.mp q
      exact List.any_eq_true.mpr ⟨kv, hkv, decide_eq_true e⟩)
    rw [if_neg h, if_neg hm, List.map_append]; rfl
theorem keys_merged : ∀ (kvs acc : List (Int × Value)), (merged acc kvs).map (·.1) = (kvs.map (·.1)).foldl addKey (acc.map (·.1))
  | [], _ => rfl
  | kv :: kvs, acc => by
    have e : merged acc (kv :: kvs) = merged (stored acc kv.1 kv.2) kvs := rfl
    rw [e, keys_merged kvs, keys_stored, List.map_cons, List.foldl_cons]
theorem merged_len {kvs : List (Int × Value)} {ks : List Int} (h : kvs.map (·.1) = ks) : (merged [] kvs).length = (keysF ks).length := by
  have := congrArg List.length (keys_merged kvs [])
  rw [List.length_map, h] at this
  exact this

noncomputable def pD (k : Int) : Dat := .tuple [.int k, .int 1]
theorem pD_in {T : Addr} {k : Int} {a b : Tok} {n : Nat} {news : List (Addr × Obj)} (h : (T, ({ cls := .type "tuple", data := .seq #[.int k a, .int 1 b] n } : Obj)) ∈ news) : DatIn news (.ref T) (pD k) :=
  .tuple (vs := [.int k a, .int 1 b]) h (.cons (.int _ _) (.cons (.int _ _) .nil))
theorem pairs_of {l : List (Addr × Obj)} : ∀ {vs : List Value} {ks : List Int}, DatAll l vs (ks.map pD) → ∃ kvs : List (Int × Value), kvs.map (·.1) = ks ∧ vs.length = kvs.length ∧ ∀ (i : Nat) (k : Int × Value), kvs[i]? = some k → ∃ (T : Addr) (t : Tok) (n : Nat), vs[i]? = some (Value.ref T) ∧ (T, ({ cls := .type "tuple", data := .seq #[.int k.1 t, k.2] n } : Obj)) ∈ l
  | [], [], _ => ⟨[], rfl, rfl, fun i k h => by simp at h⟩
  | [], _ :: _, h => by cases h
  | _ :: _, [], h => by cases h
  | v :: vs, k :: ks, h => by
    rw [List.map_cons] at h
    cases h with
    | cons h1 h2 =>
      obtain ⟨kvs, e1, e2, e3⟩ := pairs_of h2
      unfold pD at h1
      cases h1 with
      | @tuple T us n ds hm hd =>
        cases hd with
        | cons d1 d2 =>
          cases d2 with
          | cons d2 d3 =>
            cases d3 with
            | nil =>
              cases d1 with
              | int _ t =>
                cases d2 with
                | int _ u =>
                  refine ⟨(k, .int 1 u) :: kvs, by rw [List.map_cons, e1], by rw [List.length_cons, List.length_cons, e2], fun i x hx => ?_⟩
                  cases i with
                  | zero =>
                    simp only [List.getElem?_cons_zero, Option.some.injEq] at hx
                    subst hx
                    exact ⟨T, t, n, rfl, hm⟩
                  | succ i =>
                    simp only [List.getElem?_cons_succ] at hx ⊢
                    exact e3 i x hx
section
variable {prog : Program} {w : World} {A : Around} {E : Value → Shared → Prop} {s : Shared} {h₀ : Heap} {L src a b l : Addr} {m : Str → Option Value} {news n₁ : List (Addr × Obj)} {vs us : List Value} {ks ns ms : List Int} {n c d : Nat} {Q : Value → Shared → Prop}
theorem dict_K (hh : A.handled = none) (hbig : h₀.NoLimit) (F : Fr h₀ L s.heap m) (N : News h₀ L s.heap news) (hm : (src, listOf vs.toArray n) ∈ news) (D : DatAll n₁ vs (ks.map pD)) (sa : ∀ p ∈ n₁, p ∈ news) (hz : ks.length ≤ 1000) {z : Int} (hm2 : ((keysF ks).length : Int) = z)
    (h : ∀ D o kvs h' tk, Fr h₀ L h' m → News h₀ L h' ((D, o) :: news) → (∀ p ∈ news, p.1 < D) → (D == sysModules) = false → o.IsDictOf (PySem.intKind prog w) kvs → (kvs.length : Int) = z → Q (.ref D) { s with heap := h', toks := tk }) :
    wpAny (model prog w) A (call (.type "dict") [.ref src]) Q E s := by
  obtain ⟨kvs, e1, e2, e3⟩ := pairs_of D
  have hkl : kvs.length = ks.length := by rw [← e1, List.length_map]
  refine dict_pairs (kvs := kvs) hh (N _ hm).1 (by omega) ⟨by simpa using e2, fun i k hk => ?_⟩ fun h' tk hd' keep => ?_
  · obtain ⟨T, t, n', a1, a2⟩ := e3 i k hk
    exact ⟨T, t, n', by simpa using a1, (N _ (sa _ a2)).1⟩
  · obtain ⟨o, ho, hdo⟩ := Heap.dictOf_iff.mp hd'
    refine h s.heap.objs.size o _ h' tk (F.keeps keep) (fun p hp => ?_) (fun p hp => Heap.lt_size (N p hp).1) (F.notModules (modules_low hbig)) hdo (by rw [merged_len e1]; exact hm2)
    rcases List.mem_cons.mp hp with rfl | hp
    · exact ⟨ho, Nat.ne_of_gt F.ns.lt, next_is_new F⟩
    · exact ⟨keep _ _ (N p hp).1, (N p hp).2⟩
theorem len_keys {D : Addr} {o : Obj} {kvs : List (Int × Value)} {z : Int} (N : News h₀ L s.heap news) (hp : (D, o) ∈ news) (hd : o.IsDictOf (PySem.intKind prog w) kvs) (lo : (D == sysModules) = false) (e : (kvs.length : Int) = z) (hz : z ≤ 1000) (h : ∀ tk t, Q (.int z t) { s with toks := tk }) :
    wpAny (model prog w) A (call (.builtin "len") [.ref D]) Q E s :=
  kda_len N hp hd lo (by omega) (by rw [e]; exact h _ _)
theorem name_pair {h₀ h : Heap} {L T : Addr} {a : Int} {ta tb : Tok} {tl : List (Addr × Obj)} {P : Prop} (N : News h₀ L h ((T, ({ cls := .type "tuple", data := .seq #[.int a ta, .int 1 tb] } : Obj)) :: tl)) (k : ∀ (T' : Addr) (o : Obj), T' = T → News h₀ L h ((T', o) :: tl) → (∀ l, (T', o) ∈ l → DatIn l (.ref T') (pD a)) → P) : P :=
  k T _ rfl N fun l hm => pD_in hm
theorem any_isInt {k : Int} : ∀ {us : List Value} {ms : List Int}, IntsAre us ms → us.any (isInt k) = decide (k ∈ ms)
  | _, _, .nil => by simp
  | _, _, .cons (vs := us) (ns := ms) n t r => by
    have ih := any_isInt (k := k) r
    rw [List.any_cons, ih]
    by_cases e : n = k
    · subst e; simp [isInt]
    · have e' : ¬ k = n := fun q => e q.symm
      simp [isInt, e, e']
theorem notin_ints {k : Int} {t : Tok} {b : Bool} (N : News h₀ L s.heap news) (hm : (l, listOf us.toArray c) ∈ news) (hi : IntsAre us ms) (e : decide (k ∈ ms) = !b) (h : Q (.bool b) s) :
    wpAny (model prog w) A (compareOp .NotIn (.int k t) (.ref l)) Q E s :=
  SeqInW.notIn_listW (isInt k) (fun y hy => eq_isInt k t hi y (by simpa using hy)) (PySem.IsL.isList (n := c) (N _ hm).1) (by
    have e2 : us.toArray.any (isInt k) = !b := by rw [← e, ← any_isInt hi]; simp
    rw [e2, Bool.not_not]; exact h)
section
variable {hp : Heap} {tk : Nat} {value slice : PySem.Expr} {y : Int} {t : Tok}
theorem upto1 (F : Fr h₀ L hp m) (N : News h₀ L hp news) (hm : (l, listOf us.toArray c) ∈ news) (hi : IntsAre us ms) (hy : 0 ≤ y) (hz : ms.length < 2 ^ 20)
    (h : ∀ D ws h', Fr h₀ L h' m → News h₀ L h' ((D, listOf (List.toArray ws) 0) :: news) → (∀ p ∈ news, p.1 < D) → IntsAre ws (ms.take y.toNat) → Q (.ref D) { s with heap := h', toks := tk })
    (hs : subscripted slice false (.ref l) (.ref hp.objs.size) = operate [.ref hp.objs.size, .ref l] (getItem (.ref l) (.ref hp.objs.size))) (ht : ∀ r, letTemporaryGo value (.ref l) r = pure ()) :
    wpAny (model prog w) A (subscriptTail value slice (.ref l) (.ref hp.objs.size)) Q E { heap := hp.push { cls := .type "slice", data := .fields #[.none, .int y t, .none] }, gens := s.gens, drawn := s.drawn, toks := tk, os := s.os } :=
  kmk_slice_ints (s := { heap := hp, gens := s.gens, drawn := s.drawn, toks := tk, os := s.os }) F N (News.isList N hm) IsPart.none (IsPart.int _ _) hi (kmk_upto hi hy) rfl (fun D ws h' F' N' l1 i _ _ => h D ws h' F' N' l1 i) hs ht (by rw [List.size_toArray, sizeLine_eq, hi.length]; omega)
end
theorem rev_my {prog : Program} {w : World} {A : Around} {E : Value → Shared → Prop} {s : Shared} {hp : Heap} {tk : Nat} {h₀ : Heap} {L l : Addr} {m : Str → Option Value} {news : List (Addr × Obj)} {value slice : PySem.Expr} {vs : List Value} {ns : List Int} {vk : Value} {ops : List Value} {Q : Value → Shared → Prop} {c : Nat}
    (F : Fr h₀ L hp m) (N : News h₀ L hp news) (hm : (l, listOf vs.toArray c) ∈ news) (pk : IsPart vk (some (-1))) (hi : IntsAre vs ns) (hz : vs.length < 2 ^ 20)
    (h : ∀ D ws h', Fr h₀ L h' m → News h₀ L h' ((D, listOf (List.toArray ws) 0) :: news) → (∀ p ∈ news, p.1 < D) → IntsAre ws ns.reverse → Q (.ref D) { s with heap := h', toks := tk })
    (hs : subscripted slice false (.ref l) (.ref hp.objs.size) = operate ops (getItem (.ref l) (.ref hp.objs.size))) (ht : ∀ r, letTemporaryGo value (.ref l) r = pure ()) :
    wpAny (model prog w) A (subscriptTail value slice (.ref l) (.ref hp.objs.size)) Q E { heap := hp.push { cls := .type "slice", data := .fields #[.none, .none, vk] }, gens := s.gens, drawn := s.drawn, toks := tk, os := s.os } :=
  krv_ints (s := { heap := hp, gens := s.gens, drawn := s.drawn, toks := tk, os := s.os }) F N (News.isList N hm) pk hi (fun D ws h' F' N' l i _ => h D ws h' F' N' l i) hs ht (by rw [List.size_toArray, sizeLine_eq]; omega)
theorem i2_1 {w : World} {loose : List Str} {mean : ExcName → Option Value} {mg mb : Str → Option Value} {dp un : Nat} {gd : Option (List Code)} {cn : Str} {cs : Scope} {a : Addr} {ccd : Value} {cl : List (Str × Addr)} {outer : List Env} {A₀ : Around} {base h₀ : Heap} {L : Addr} {m : Str → Option Value} {s : Shared} {Q E : Value → Shared → Prop} {news : List (Addr × Obj)} {x : Int} {tx tn : Tok}
   (X : (Mine01.hd.heap_39 w.params).In h₀) (B : Below A₀ base outer h₀) (F : Fr h₀ L s.heap m) (N : News h₀ L s.heap news) (T : Top topProg loose mean mg mb h₀) (hk : cs.kind = .function) (hC : CodeHd base 34 30) (hG : GI news)
   (h0 : 0 ≤ x) (h1 : x < 2 ^ 40) (hd : dp + 300 < recursionLimit) (hu : un + 3000 < cLine)
   (h : ∀ k D vs' cap h' tk', k < 100 → x < 2 ^ (1 * k) → IntsAre vs' (digs 1 k x) → Fr h₀ L h' m → News h₀ L h' ((D, listOf vs'.toArray cap) :: news) → (∀ p ∈ news, p.1 < D) → Q (.ref D) { s with heap := h', toks := tk' }) :
   wpAny (model PySem.Challenge.rw_gy0003_01.row.prog w) (ktrTop dp un gd cn cs L a ccd cl outer) (call (.ref 35) [.int x tx, .int 1 tn]) Q E s := by
  obtain ⟨k, k1, k2, k3, k4⟩ := dig_count (nb := 1) h0 h1 (Nat.le_refl _) (by decide)
  exact i2_g (nb := 1) X B F N T hk hC hG h0 h1 rfl (by decide) (by decide) k1 k2 k3 k4 hd hu fun D vs' cap h' tk' i F' N' l => h k D vs' cap h' tk' k2 k3 i F' N' l
theorem grown_tabs {h₀ h : Heap} {L : Addr} {tabs all : List (Addr × Obj)} (N : News h₀ L h all) (hs : ∀ p ∈ tabs, p ∈ all) (a : GI tabs) (b : GD tabs) : GrownAll [(41, 37), (34, 30)] h := by
  obtain ⟨_, _, _, _, ma, _⟩ := a
  obtain ⟨_, _, _, _, mb, _⟩ := b
  exact ⟨GrownAt.of N (hs _ mb), GrownAt.of N (hs _ ma), trivial⟩
theorem mul_s {x y : Int} {t u : Tok} (h0 : 0 ≤ x) (h1 : x < 1000) (h : ∀ tk t, Q (.int (x * y) t) { s with toks := tk }) : wpAny (model prog w) A (binaryOp .Mult (.int x t) (.int y u)) Q E s :=
  mul_int (h _ _) (IntMulOk.of_left (Nat.le_trans (bits_le (k := 10) (by omega)) (by decide)))
theorem ne_b {z : Bool} (N : News h₀ L s.heap news) (ha : (a, listOf vs.toArray c) ∈ news) (hb : (b, listOf us.toArray d) ∈ news) (hi : IntsAre vs ns) (hj : IntsAre us []) (hu : A.units + 64 < cLine) (e : ns.isEmpty = !z) (h : Q (.bool z) s) :
    wpAny (model prog w) A (compareOp .NotEq (.ref a) (.ref b)) Q E s := by
  refine ne_intsK (News.isList N ha) hi (News.isList N hb) hj hu ?_
  have e2 : (!decide (ns = [])) = z := by
    cases ns with
    | nil => cases z <;> simp_all
    | cons x r => cases z <;> simp_all
  rw [e2]; exact h
theorem pow_small {k : Nat} (h : k ≤ 4) : 1 ≤ (2 : Int) ^ k ∧ (2 : Int) ^ k ≤ 16 := by
  have : ∀ k : Fin 5, 1 ≤ (2 : Int) ^ k.val ∧ (2 : Int) ^ k.val ≤ 16 := by decide
  exact this ⟨k, by omega⟩
theorem filter_one {f : Int → Bool} {x : Int} : [x].filter f = if f x = true then [x] else [] := by
  cases h : f x <;> simp [List.filter, h]
theorem leastT_len (ks : List Int) : ∀ i, (leastT ks i).length ≤ i
  | 0 => Nat.le_refl _
  | i + 1 => by
    have := leastT_len ks i
    unfold leastT; split
    · omega
    · rw [insL_len]; omega
theorem mod12 {x : Int} {t u : Tok} {Q : Value → Shared → Prop} (h : ∀ y tk t, 0 ≤ y → y < 12 → Q (.int y t) { s with toks := tk }) : wpAny (model prog w) A (binaryOp .Mod (.int x t) (.int 12 u)) Q E s :=
  mod_int' (by decide) (h _ _ _ (by rw [Int.fmod_eq_emod_of_nonneg _ (by omega)]; omega) (by rw [Int.fmod_eq_emod_of_nonneg _ (by omega)]; omega))
theorem mod_num {x z : Int} {t u : Tok} {Q : Value → Shared → Prop} (hz : z = 1000000) (h : ∀ y tk t, 0 ≤ y → y < 1000000 → Q (.int y t) { s with toks := tk }) : wpAny (model prog w) A (binaryOp .Mod (.int x t) (.int z u)) Q E s := by
  subst hz
  exact mod_int' (by decide) (h _ _ _ (by rw [Int.fmod_eq_emod_of_nonneg _ (by omega)]; omega) (by rw [Int.fmod_eq_emod_of_nonneg _ (by omega)]; omega))
theorem count_my {y : Int} {t u : Tok} {Q : Value → Shared → Prop} (h0 : 0 ≤ y) (h1 : y < 12) (h : ∀ (n : Nat) tk t, 1 ≤ n → n ≤ 12 → Q (.int (n : Int) t) { s with toks := tk }) : wpAny (model prog w) A (binaryOp .Add (.int 1 t) (.int y u)) Q E s := by
  have e : (1 : Int) + y = ((1 + y).toNat : Int) := by omega
  refine add_int ?_
  rw [e]
  exact h _ _ _ (by omega) (by omega)
end

theorem wp_hid {M : Model} {α : Type} {A : Around} {t : Sem α} {Q : α → Shared → Prop} {E : Value → Shared → Prop} {s : Shared} (h : ∀ Q' : α → Shared → Prop, Q' = Q → wpAny M A t Q' E s) : wpAny M A t Q E s := h Q rfl
theorem name_law1 {h₀ h : Heap} {L a : Addr} {oa : Obj} {p1 p2 p3 p4 : Addr × Obj} {tl : List (Addr × Obj)} {P : Prop} (N : News h₀ L h (p1 :: p2 :: p3 :: p4 :: (a, oa) :: tl)) (k : ∀ oa' : Obj, oa' = oa → P) : P := k _ rfl
theorem name_slice {h₀ h : Heap} {L a : Addr} {vs ws : List Value} {k : Nat} {ns : List Int} {tl : List (Addr × Obj)} {P : Prop} (N : News h₀ L h ((a, listOf vs.toArray k) :: tl)) (hi : IntsAre ws ns) (k : ∀ (a' : Addr) (v' : List Value) (ns' : List Int), a' = a → v' = vs → ns' = ns → P) : P := k _ _ _ rfl rfl rfl
theorem name_num {x : Int} {P : Prop} (hx : x < 1000000) (k : ∀ x' : Int, x' = x → P) : P := k _ rfl
theorem getD_mem {ks : List Int} {i : Nat} (h : i < ks.length) : ks.getD i 0 ∈ ks := by
  rw [List.getD_eq_getElem?_getD, List.getElem?_eq_getElem h]
  exact List.getElem_mem h
theorem bnot_of {b : Bool} (h : b = false) : ¬ b = true := by rw [h]; decide
theorem name_law0 {h₀ h : Heap} {L a b c : Addr} {oa ob oc : Obj} {tl : List (Addr × Obj)} {P : Prop} (N : News h₀ L h ((a, oa) :: (b, ob) :: (c, oc) :: tl)) (k : ∀ oa' ob' oc' : Obj, oa' = oa → ob' = ob → oc' = oc → P) : P := k _ _ _ rfl rfl rfl
section
local macro_rules | `(tactic| k_ne) => `(tactic| ((try dsimp only); first | with_reducible assumption | (refine Ne.symm ?_; with_reducible assumption)))
local macro_rules | `(tactic| k_memK) => `(tactic| first | exact List.Mem.head _ | (refine List.Mem.tail _ ?_; k_memK) | assumption)
local macro_rules | `(tactic| k_mem) => `(tactic| first | exact List.Mem.head _ | (refine List.Mem.tail _ ?_; k_mem) | assumption)
local macro_rules | `(tactic| k_all) => `(tactic| first | assumption | exact List.forall_mem_nil _ | (refine' List.forall_mem_cons.mpr ⟨?a, ?b⟩; (case a => first | k_ne | assumption); (case b => k_all)))
local macro_rules | `(tactic| k_updF) => `(tactic| first | assumption | (refine' UpdF.head ?a; (case a => k_all)) | (refine' UpdF.tail ?a ?b; (case a => first | assumption | k_ne); (case b => k_updF)))
local macro_rules | `(tactic| k_allIn) => `(tactic| first | exact List.forall_mem_nil _ | (refine' List.forall_mem_cons.mpr (And.intro ?aI ?aR); (case aI => (repeat (first | with_reducible exact List.mem_cons_self | refine List.mem_cons_of_mem _ ?_))); (case aR => k_allIn)) | (intro p hp; (repeat (first | with_reducible exact hp | refine List.mem_cons_of_mem _ ?_)); done))
local macro_rules | `(tactic| walk_at "call ref") => `(tactic| (k_here; refine Stop.out ?_))
local macro_rules | `(tactic| walk_at "exec While") => `(tactic| (k_here; refine Stop.out ?_))
local macro_rules | `(tactic| walk_at "pyIter ref") => `(tactic| (k_here; refine Stop.out ?_))
local macro_rules | `(tactic| walk_at "ite") => `(tactic| (k_here; k_openite; first | (refine ite_neg (bnot_of (by with_reducible assumption)) ?_) | (refine ite_pos (by with_reducible assumption) ?_) | (refine ite_pos (by (simp only [beq_iff_eq, bne_iff_ne, decide_eq_true_eq]; omega)) ?_) | (refine ite_neg (by (simp only [beq_iff_eq, bne_iff_ne, decide_eq_true_eq]; omega)) ?_)))
local macro_rules | `(tactic| walk_at "KswPost") => `(tactic| (refine Stop.out ?_))
local macro_rules | `(tactic| walk_at "KswEnd") => `(tactic| (refine Stop.out ?_))
local macro_rules | `(tactic| walk_at "call type:dict") => `(tactic| (k_here; refine Stop.out ?_))
local macro_rules | `(tactic| walk_at "call builtin:len") => `(tactic| (k_here; k_dflt (refine' len_keys ?N ?m ?d ?l ?e ?z ?_; (case N => k_asm); (case d => assumption); (case m => k_mem); (case l | e => assumption); (case z => omega)); intro tk9 t9))
local macro_rules | `(tactic| walk_at "exec For Name Call cons nil") => `(tactic| (k_here; (rename Fr _ _ _ _ => lF'); (with_unfolding_all refine' For_invVF lF' ?k1 ?k2 ?_; (case k1 | k2 => exact rfl); k_whole)))
local macro_rules | `(tactic| walk_at "exec For Name Subscript cons nil") => `(tactic| (k_here; (rename Fr _ _ _ _ => lF'); (with_unfolding_all refine' For_invVF lF' ?k1 ?k2 ?_; (case k1 | k2 => exact rfl); k_whole)))
local macro_rules | `(tactic| walk_at "LpPost") => `(tactic| (refine LpPost.ret ?_))
local macro_rules | `(tactic| walk_at "compareOp NotIn int ref") => `(tactic| (k_here; k_dflt (refine' notin_ints ?N ?m ?i ?e ?_; (case N => k_asm); (case m => k_mem); (case i | e => assumption))))
local macro_rules | `(tactic| walk_at "subscriptTail") => `(tactic| (k_here; (with_reducible show wpAny _ _ (subscriptTail _ _ (Value.ref _) (Value.int _ _)) _ _ _); k_dflt (refine' ksa_sub ?k1 ?k2 ?k3 ?k4 ?k5 ?k6 ?_ ?k7; (case k1 => k_asm); (case k2 => k_mem); (case k3 => assumption); (case k4 | k5 | k6 => omega); (case k7 => with_unfolding_all rfl)); intro t9))
local macro_rules | `(tactic| walk_at "subscriptTail Name Call ref int") => `(tactic| (k_here; (with_reducible show wpAny _ _ (subscriptTail _ _ (Value.ref _) (Value.int _ _)) _ _ _); k_dflt (refine' ksa_sub ?k1 ?k2 ?k3 ?k4 ?k5 ?k6 ?_ ?k7; (case k1 => k_asm); (case k2 => k_mem); (case k3 => assumption); (case k4 | k5 | k6 => omega); (case k7 => with_unfolding_all rfl)); intro t9))
local macro_rules | `(tactic| walk_at "subscriptTail Name Name ref int") => `(tactic| (k_here; (with_reducible show wpAny _ _ (subscriptTail _ _ (Value.ref _) (Value.int _ _)) _ _ _); k_dflt (refine' ksa_sub ?k1 ?k2 ?k3 ?k4 ?k5 ?k6 ?_ ?k7; (case k1 => k_asm); (case k2 => k_mem); (case k3 => assumption); (case k4 | k5 | k6 => omega); (case k7 => with_unfolding_all rfl)); intro t9))
local macro_rules | `(tactic| walk_at "subscriptTail Name Slice ref ref") => `(tactic| (k_here; k_dflt (refine' upto1 ?F ?N ?l ?i ?y ?z ?_ ?s ?t; (case F | N => k_asm); (case l => k_mem); (case i => assumption); (case y => omega); (case s => with_unfolding_all rfl); (case t => intro _; rfl); (case z => omega)); intro D9 vs9 h9 F9 N9 l9 i9; (try k_lt l9)))
local macro_rules | `(tactic| walk_at "compareOp NotEq ref ref") => `(tactic| (k_here; k_dflt (refine' ne_my ?N ?a ?b ?i ?j ?u ?e ?_; (case N => k_asm); (case a | b => k_mem); (case i | j => assumption); (case u => units_room); (case e => assumption))))
local macro_rules | `(tactic| walk_at "call builtin:list.index") => `(tactic| (k_here; k_dflt (refine' index_my ?N ?l ?i ?z ?k ?_; (case N => k_asm); (case l => k_mem); (case i => assumption); (case z => omega); (case k => assumption)); intro t9))
local macro_rules | `(tactic| walk_at "binaryOp Mod int int") => `(tactic| (k_here; (with_reducible show wpAny _ _ (binaryOp _ (Value.int _ _) (Value.int (10 ^ Int.toNat 6) _)) _ _ _); k_dflt (refine' mod_num ?e ?_; (case e => rfl)); intro y9 tk9 t9 yl9 yr9))
local macro_rules | `(tactic| walk_at "subscriptTail Call Name cons nil Slice ref ref") => `(tactic| (k_here; k_dflt (refine kba_turn (value' := PySem.Expr.Name (PySem.Str.ofString "_") ⟨0, 0, 0, 0⟩) (fun _ => rfl) ?_)))
local macro_rules | `(tactic| walk_at "call builtin:len") => `(tactic| (k_here; k_dflt (refine' len_my ?N ?m ?s ?f ?_; (case N => k_asm); (case m => k_mem); (case s => assumption); (case f => omega))))
local macro_rules | `(tactic| walk_at "callWith ref nil nil") => `(tactic| (k_here; k_dflt (refine' callWith_K ?k1 ?k2 ?_; (case k1 => k_asm); (case k2 => k_is); k_whole)))
local macro_rules | `(tactic| walk_at "exec For Name Call cons nil") => `(tactic| (k_here; (rename Fr _ _ _ _ => lF'); (with_unfolding_all refine' For_C lF' ?k1 ?k2 ?k3 ?_; (case k1 | k2 | k3 => exact rfl); k_whole)))
local macro_rules | `(tactic| walk_at "exec Assign cons ListComp") => `(tactic| (k_here; k_dflt (refine Assign_C (F₀ := by k_asm) (by rfl) (by with_unfolding_all rfl) (by with_unfolding_all rfl) (by intro k; rfl) (by intro h; rfl) (by rfl) (by decide) (by rfl) (by rfl) (by rfl) ?_)))
local macro_rules | `(tactic| walk_at "SrcC") => `(tactic| (refine Stop.out ?_))
local macro_rules | `(tactic| walk_at "CompSrcT") => `(tactic| (k_here; refine Stop.out ?_))
local macro_rules | `(tactic| walk_at "CPost") => `(tactic| (refine CPost.ret ?_))
local macro_rules | `(tactic| walk_at "GrownAll") => `(tactic| (refine' grown_tabs ?gN ?gs ?ga ?gb; (case gN => k_asm); (case ga | gb => with_reducible assumption); (case gs => (intro p hp; (repeat (first | with_reducible exact hp | refine List.mem_cons_of_mem _ ?_))))))
local macro_rules | `(tactic| walk_at "And") => `(tactic| ((with_reducible show _ ∧ GrownAll _ _); refine And.intro ?_ ?_))
local macro_rules | `(tactic| walk_at "compareOp NotEq ref ref") => `(tactic| (k_here; k_dflt (refine' ne_b ?N ?a ?b ?i ?j ?u ?e ?_; (case N => k_asm); (case a | b => k_mem); (case i => with_reducible assumption); (case j => exact .nil); (case u => units_room); (case e => with_reducible assumption))))
local macro_rules | `(tactic| walk_at "binaryOp Mult int int") => `(tactic| (k_here; k_dflt (refine' mul_s ?a ?b ?_; (case a | b => omega)); intro tk9 t9))
local macro_rules | `(tactic| walk_at "binaryOp Pow int int") => `(tactic| (k_here; k_dflt (refine' pow_int_small ?a ?b ?c ?_; (case a | b => omega); (case c => decide))))
local macro_rules | `(tactic| walk_at "CompSrc") => `(tactic| (k_here; refine Stop.out ?_))
local macro_rules | `(tactic| walk_at "binaryOp Mod int int") => `(tactic| (k_here; (with_reducible show wpAny _ _ (binaryOp _ (Value.int _ _) (Value.int 12 _)) _ _ _); k_dflt (refine' mod12 ?_); intro y9 tk9 t9 yl9 yr9))
local macro_rules | `(tactic| walk_at "binaryOp Add int int") => `(tactic| (k_here; (rename @LT.lt Int _ _ 12 => hy12); k_dflt (refine' count_my ?a hy12 ?_; (case a => assumption)); intro n9 tk9 t9 nl9 nr9; clear hy12))
set_option maxRecDepth 100000 in
set_option maxHeartbeats 8000000 in
theorem law_c : PySem.Challenge.rw_gy0003_01.Holds := hd (by
  k_go0
  (all_goals try k_fold)
  k_steps
  · refine Stop.intro ?_
    rename Shared => sA
    rename_i n tkn tn hn1 hn2 h5 oC F5 N5 dC
    refine name_law0 N5 ?_
    rintro oO oE oK rfl rfl rfl
    have lq : @LT.lt Nat _ 37 sA.heap.objs.size ∧ @LT.lt Nat _ 30 sA.heap.objs.size := by assumption
    have hz0 : Apt [(37, tabObj #[]), (30, tabObj #[])] ((sA.heap.objs.size + 1 + 1 + 1 + 1, oO) :: (sA.heap.objs.size + 1 + 1 + 1, oE) :: (sA.heap.objs.size + 1 + 1, oK) :: (sA.heap.objs.size + 1, oC) :: []) := by
      have far : ∀ k : Nat, 37 < k → 30 < k → Far [(37, tabObj #[]), (30, tabObj #[])] k := fun k a b => Far.cons (Nat.ne_of_gt a) (Far.cons (Nat.ne_of_gt b) fun _ h => nomatch h)
      exact .cons (far _ (by omega) (by omega)) (.cons (far _ (by omega) (by omega)) (.cons (far _ (by omega) (by omega)) (.cons (far _ (by omega) (by omega)) fun _ _ _ h => nomatch h)))
    k_dflt (refine' kk_c (news := []) (tabs := [(37, tabObj #[]), (30, tabObj #[])]) (led := fun t => (sA.heap.objs.size + 1 + 1 + 1 + 1, oO) :: (sA.heap.objs.size + 1 + 1 + 1, oE) :: (sA.heap.objs.size + 1 + 1, oK) :: (sA.heap.objs.size + 1, oC) :: t) ?yX ?yB ?yF ?yN ?yT ?yk ?yC ?yC2 ?yL ?yTb ?yA ?y0 ?y1 ?yd ?yu ?_; (case yX => k_asm); (case yB => k_asm); (case yF => k_asm); (case yN => k_asm); (case yT => k_asm); (case yk => exact rfl); (case yC => k_asm); (case yC2 => k_asm); (case yL => exact .cons (.cons (.cons (.cons .nil)))); (case yTb => exact .inl rfl); (case yA => exact hz0); (case y0 => assumption); (case y1 => omega); (case yd => ktr_room); (case yu => ktr_units))
    intro DK vk ck tb h6 tk6 ik gi gd ap F6 N6 ne6
    clear N5 F5 hz0
    (try dsimp only at ap); (try dsimp only at N6); (try dsimp only at ne6)
    have dk1 : @Ne Nat DK (sA.heap.objs.size + 1) := Ne.symm (ne6 _ (.tail _ (.tail _ (.tail _ (.head _)))))
    have dk2 : @Ne Nat DK (sA.heap.objs.size + 1 + 1) := Ne.symm (ne6 _ (.tail _ (.tail _ (.head _))))
    have dk3 : @Ne Nat DK (sA.heap.objs.size + 1 + 1 + 1) := Ne.symm (ne6 _ (.tail _ (.head _)))
    have dk4 : @Ne Nat DK (sA.heap.objs.size + 1 + 1 + 1 + 1) := Ne.symm (ne6 _ (.head _))
    have tb1 : ∀ p ∈ tb, @Ne Nat p.1 (sA.heap.objs.size + 1) := fun p hp => Ne.symm (ap.tl.tl.tl.hd p hp)
    have tb2 : ∀ p ∈ tb, @Ne Nat p.1 (sA.heap.objs.size + 1 + 1) := fun p hp => Ne.symm (ap.tl.tl.hd p hp)
    have tb3 : ∀ p ∈ tb, @Ne Nat p.1 (sA.heap.objs.size + 1 + 1 + 1) := fun p hp => Ne.symm (ap.tl.hd p hp)
    have tb4 : ∀ p ∈ tb, @Ne Nat p.1 (sA.heap.objs.size + 1 + 1 + 1 + 1) := fun p hp => Ne.symm (ap.hd p hp)
    have tbD : ∀ p ∈ tb, @Ne Nat p.1 DK := fun p hp => ne6 p (.tail _ (.tail _ (.tail _ (.tail _ hp))))
    clear ne6 ap
    (try dsimp only)
    (try k_fold)
    k_steps
    refine Stop.intro ?_
    have pk : Stop ((@Ne Nat DK (sA.heap.objs.size + 1) ∧ @Ne Nat DK (sA.heap.objs.size + 1 + 1)) ∧ @Ne Nat DK (sA.heap.objs.size + 1 + 1 + 1) ∧ @Ne Nat DK (sA.heap.objs.size + 1 + 1 + 1 + 1)) := ⟨⟨dk1, dk2⟩, dk3, dk4⟩
    clear dk1 dk2 dk3 dk4
    have hnI1 : (1 : Int) ≤ (n : Int) := by omega
    have hnI2 : (n : Int) ≤ 12 := by omega
    (rename News _ _ _ _ => NA)
    (rename Fr _ _ _ _ => FA)
    refine name_law1 NA ?_
    rintro oK1 rfl
    have dK1 : oK1.data = Data.cell (some (Value.ref DK)) := by assumption
    generalize hq : sA.heap.objs.size = q0 at *
    (with_unfolding_all refine' ksw_while (σ := Int × Tok × Int × Tok) (fun _ => (DK, listOf vk.toArray ck) :: (q0 + 1 + 1 + 1 + 1, oO) :: (q0 + 1 + 1 + 1, oE) :: (q0 + 1 + 1, oK1) :: (q0 + 1, oC) :: tb) (fun c => [(Str.ofString "odd", .int c.1 c.2.1), (Str.ofString "often", .int c.2.2.1 c.2.2.2)]) (fun _ => True) [] (fun c => WhW n c.1 c.2.2.1) (fun c => c.1.toNat) ((n : Int), _, 0, _) FA (cb_drop NA ?la) trivial ?lk ?lp ?lt)
    case la => k_allIn
    case lk => kst_all
    case lp => exact wh_start hnI1 hnI2
    case lt =>
      rintro ⟨odd, t1, often, t2⟩ u h tk _ ⟨w1, w2, w3, w4, w5⟩ F2 N2
      dsimp only at w1 w2 w3 w4 w5 F2 N2
      clear FA NA
      by_cases he : odd.fmod 2 = 0
      · (try k_fold)
        refine wp_hid ?_
        intro QW hQW
        k_steps
        subst hQW
        (try dsimp only)
        k_steps
        refine Stop.intro ?_
        (rename News _ _ _ _ => NB)
        (rename Fr _ _ _ _ => FB)
        exact ksw_end (c' := (odd.fdiv 2, _, often + 1, _)) FB NB (by k_allIn) trivial (by kst_all) (by
          intro z z1 z2
          have za : z ≠ Str.ofString "odd" := z1 _ (.head _)
          have zb : z ≠ Str.ofString "often" := z1 _ (.tail _ (.head _))
          simp [kstB, za, zb]) (wh_up w5 he) (wh_mu w5 he)
      · have hG : Good n odd often := wh_end w5 he
        obtain ⟨z1, z2, z3, z4, gmany, glst, gmem, gcong, gbis, gkeep, gends⟩ := id hG
        have hkl := kindsT_len n (n + 1)
        change (kindsF n).length = n at hkl
        have hvkl := ik.length
        rw [hkl] at hvkl
        generalize hks : kindsF n = ks at *
        (try k_fold)
        k_steps
        refine Stop.intro ?_
        (rename Fr _ _ _ _ => FB)
        (rename News _ _ _ _ => NB)
        (with_unfolding_all refine LCg.CompSrc.ledger (ax := DK) (its := vk.toArray) (k := ck) rfl FB (cb_drop NB ?ca) (.head _) (by rw [List.size_toArray, sizeLine_eq]; omega) fun g9 => cp_rest (σ := List (Addr × Obj)) (n := vk.toArray.size) (fun c => (DK, listOf vk.toArray ck) :: (q0 + 1 + 1 + 1 + 1, oO) :: (q0 + 1 + 1 + 1, oE) :: (q0 + 1 + 1, oK1) :: (q0 + 1, oC) :: (c ++ tb)) (fun i ys c => DatAll c ys ((ks.take i).map pD)) ?ct ?cd vk.toArray.size 0 [] [] (Nat.zero_add _) .nil)
        case ca => exact fun p hp => hp
        case ct =>
          intro c i ys v I oI C oC' D m₂ h tk E' hi hv hP hC' hx F N off ne
          obtain ⟨kd, tv, hkd, rfl⟩ := ints_at ik hv
          obtain ⟨ne1, ne2, ne3⟩ := ne
          clear FB NB
          (try dsimp only at N)
          (try k_fold)
          refine wp_hid ?_
          intro QP hQP
          k_steps
          subst hQP
          (try dsimp only)
          k_steps
          (rename News _ _ _ _ => NT0)
          refine name_pair NT0 ?_
          rintro T oT rfl NT hTin
          rename @LT.lt Nat _ I T ∧ _ => lT
          obtain ⟨la, lb, lc, ld⟩ := lT
          clear NT0
          refine CpEnd.put (P := fun ys c => DatAll c ys ((ks.take (i + 1)).map pD)) ((T, oT) :: c) (by k_asm) (by k_asm) ?xs ?xo ?xt ?xp
          case xt => exact .inr ⟨_, .head _, rfl, _, rfl⟩
          case xs =>
            (try dsimp only)
            refine List.forall_mem_cons.mpr ⟨by k_memK, List.forall_mem_cons.mpr ⟨by k_memK, List.forall_mem_cons.mpr ⟨by k_memK, List.forall_mem_cons.mpr ⟨by k_memK, List.forall_mem_cons.mpr ⟨by k_memK, List.forall_mem_cons.mpr ⟨by k_memK, List.forall_mem_cons.mpr ⟨by k_memK, List.forall_mem_cons.mpr ⟨by k_memK, ?_⟩⟩⟩⟩⟩⟩⟩⟩
            refine List.forall_mem_cons.mpr ⟨by k_memK, fun p hp => ?_⟩
            exact .tail _ (.tail _ (.tail _ (.tail _ (.tail _ (.tail _ (.tail _ (.tail _ (.tail _ hp))))))))
          case xo =>
            intro p hp
            rcases List.mem_cons.mp hp with rfl | hp
            · exact off _ (.head _)
            rcases List.mem_cons.mp hp with rfl | hp
            · exact off _ (.tail _ (.head _))
            rcases List.mem_cons.mp hp with rfl | hp
            · exact off _ (.tail _ (.tail _ (.head _)))
            rcases List.mem_cons.mp hp with rfl | hp
            · exact off _ (.tail _ (.tail _ (.tail _ (.head _))))
            rcases List.mem_cons.mp hp with rfl | hp
            · exact off _ (.tail _ (.tail _ (.tail _ (.tail _ (.head _)))))
            rcases List.mem_cons.mp hp with rfl | hp
            · exact ⟨Nat.ne_of_gt la, Nat.ne_of_gt lb, Nat.ne_of_gt lc⟩
            · exact off _ (.tail _ (.tail _ (.tail _ (.tail _ (.tail _ hp)))))
          case xp =>
            rw [take_snoc hkd, List.map_append]
            exact (hP.mono fun p hp => .tail _ hp).append (.one (hTin _ (.head _)))
        case cd =>
          intro tu ys hP
          unfold LCg.FinE
          intro DP h tk F' N' o1
          have N : News _ _ h ((DP, listOf ys.toArray ys.length) :: (DK, listOf vk.toArray ck) :: (q0 + 1 + 1 + 1 + 1, oO) :: (q0 + 1 + 1 + 1, oE) :: (q0 + 1 + 1, oK1) :: (q0 + 1, oC) :: (tu ++ tb)) := N'
          rw [List.size_toArray, hvkl, ← hkl, List.take_length] at hP
          clear N' FB NB
          (try k_fold)
          k_steps
          refine Stop.intro ?_
          (k_dflt (refine' dict_K ?jhh ?jhb ?jF ?jN ?jm ?jD ?js ?jz ?je ?_; (case jhh => exact rfl); (case jhb => exact Top.nolimit (by k_asm)); (case jF => k_asm); (case jN => k_asm); (case jm => k_mem); (case jD => assumption); (case js => (intro p hp; (repeat (first | exact List.mem_append_left _ hp | refine List.mem_cons_of_mem _ ?_)); done)); (case jz => omega); (case je => assumption)); intro D9 o9 kv9 h9 tk9 F9 N9 l9 lo9 hd9 e9; (try k_lt l9))
          k_steps
          refine Stop.intro ?_
          (rename IsRange _ _ _ _ _ _ _ _ => rgC)
          (rename Fr _ _ _ _ => FC)
          (rename News _ _ _ _ => NC)
          refine name_one NC ?_
          rintro Dl rfl
          rename _ ∧ _ ∧ @LT.lt Nat _ DK Dl ∧ _ => lD
          obtain ⟨_, _, lDK, le4, le3, le2, le1, leT⟩ := lD
          have tbl : ∀ p ∈ tb, @Ne Nat p.1 Dl := fun p hp => Nat.ne_of_lt (allLt_lt leT p (List.mem_append_right _ hp))
          (with_unfolding_all refine' lp_range (σ := List Value × Nat) (n := n) (fun c => (Dl, listOf c.1.toArray c.2) :: (DK, listOf vk.toArray ck) :: (q0 + 1 + 1 + 1 + 1, oO) :: (q0 + 1 + 1 + 1, oE) :: (q0 + 1 + 1, oK1) :: (q0 + 1, oC) :: tb) (fun _ => []) [] (fun i c => IntsAre c.1 (leastT ks i)) ([], 0) rfl rgC (small_one (by omega) (by omega) (by omega) (by omega)) ((rangeSize_nat _ _).trans (by congr 1)) FC (cb_drop NC ?la) ?lk ?lp ?lt ?ld)
          case la =>
            refine List.forall_mem_cons.mpr ⟨by k_memK, List.forall_mem_cons.mpr ⟨by k_memK, List.forall_mem_cons.mpr ⟨by k_memK, List.forall_mem_cons.mpr ⟨by k_memK, List.forall_mem_cons.mpr ⟨by k_memK, List.forall_mem_cons.mpr ⟨by k_memK, fun p hp => ?_⟩⟩⟩⟩⟩⟩
            exact .tail _ (.tail _ (.tail _ (.tail _ (.tail _ (.tail _ (.tail _ (.tail _ (List.mem_append_right _ hp))))))))
          case lk => kst_all
          case lp => exact .nil
          case lt =>
            rintro ⟨vl, cl⟩ I1 it1 i t u h tk hin hP hoff F2 N2
            dsimp only at hP F2 N2 hoff
            clear FC NC rgC
            have hvl := hP.length
            have hll := leastT_len ks i
            have hID : @Ne Nat Dl I1 := hoff _ (.head _)
            have e0 : (0 + (i : Int)).toNat = i := by omega
            by_cases hmem : ks.getD i 0 ∈ ks.take i
            · have hdec : decide (ks.getD (0 + (i : Int)).toNat 0 ∈ ks.take (0 + (i : Int)).toNat) = !false := by rw [e0]; simpa using hmem
              (try k_fold)
              refine wp_hid ?_
              intro QL hQL
              k_steps
              subst hQL
              (try dsimp only)
              k_steps
              refine' LpPost.next (vl, cl) (by k_asm) (by k_asm) ?zP ?zs ?zo ?zk ?zh
              case zk => kst_all
              case zs => k_allIn
              case zo => exact hoff
              case zh =>
                intro z z1 z2 z3
                exact if_neg z1
              case zP =>
                dsimp only
                rw [leastT, if_pos hmem]
                exact hP
            · have hdec : decide (ks.getD (0 + (i : Int)).toNat 0 ∈ ks.take (0 + (i : Int)).toNat) = !true := by rw [e0]; simpa using hmem
              (try k_fold)
              refine wp_hid ?_
              intro QL hQL
              k_steps
              refine Stop.intro ?_
              ((with_reducible show wpAny _ _ (call (Value.ref 65) _) _ _ _); k_dflt (refine' ins_c ?jX ?jB ?jF ?jN ?jT ?jhk ?jhU ?jhi ?jhn ?jhd ?jhu ?_; (case jX => k_asm); (case jB => k_asm); (case jF => k_asm); (case jN => k_asm); (case jT => k_asm); (case jhk => first | exact rfl | assumption); (case jhU => k_updF); (case jhi => assumption); (case jhn => omega); (case jhd => ktr_room); (case jhu => ktr_units)); intro vs9 n9 h9 tk9 i9 F9 N9; (try dsimp only at N9); (try dsimp only); (try k_fold))
              k_steps
              subst hQL
              (try dsimp only)
              k_steps
              refine' LpPost.next (vs9, n9) F9 (by k_asm) ?zP ?zs ?zo ?zk ?zh
              case zk => kst_all
              case zs => k_allIn
              case zo => exact List.forall_mem_cons.mpr ⟨hID, fun p hp => hoff p (.tail _ hp)⟩
              case zh =>
                intro z z1 z2 z3
                exact if_neg z1
              case zP =>
                dsimp only
                rw [leastT, if_neg hmem]
                rw [Int.zero_add] at i9
                exact i9
          case ld =>
            rintro ⟨vl, cl⟩ u h tk hP F2 N2
            dsimp only at hP F2 N2
            clear FC NC rgC
            have hlL : (leastT ks n).length ≤ n := leastT_len ks n
            have hvl := hP.length
            (try k_fold)
            k_steps
            refine Stop.intro ?_
            (rename IsRange _ _ _ _ _ _ _ _ => rgC)
            (rename Fr _ _ _ _ => FC)
            (rename News _ _ _ _ => NC)
            (with_unfolding_all refine LCg.CompSrc.range (n := (odd + often).toNat) rfl FC (cb_drop NC ?ca) rgC (small_one (by omega) (by omega) (by omega) (by omega)) ((rangeSize_nat _ _).trans (by rw [Int.sub_zero])) (by rw [sizeLine_eq]; omega) fun g9 => cp_rest (σ := Unit) (n := (odd + often).toNat) (fun _ => (Dl, listOf vl.toArray cl) :: (DK, listOf vk.toArray ck) :: (q0 + 1 + 1 + 1 + 1, oO) :: (q0 + 1 + 1 + 1, oE) :: (q0 + 1 + 1, oK1) :: (q0 + 1, oC) :: tb) (fun i ys _ => IntsAre ys ((rangeKs 0 i).map (idxF ks))) ?ct ?cd (odd + often).toNat 0 [] () (Nat.zero_add _) .nil)
            case ca => k_allIn
            case ct =>
              intro c i ys v I oI C oC' D m₂ h tk E' hi hv hP3 hC' hx F N off ne
              obtain ⟨tv, rfl⟩ := hv
              have hidx : (0 + (i : Int)) ∈ ks := gmem _ (by clear ne; omega) (by clear ne; omega)
              obtain ⟨ne1, ne2, ne3⟩ := ne
              clear FC NC rgC
              (try dsimp only at N)
              (try k_fold)
              refine wp_hid ?_
              intro QI hQI
              k_steps
              subst hQI
              (try dsimp only)
              k_steps
              refine CpEnd.put (P := fun ys _ => IntsAre ys ((rangeKs 0 (i + 1)).map (idxF ks))) () (by assumption) (by assumption) ?xs ?xo trivial ?xp
              case xs => k_allIn
              case xo => exact off
              case xp =>
                rw [rangeKs_succ, List.map_append]
                exact ints_snoc hP3
            case cd =>
              intro c ys hP3
              unfold LCg.FinE
              intro DJ h tk F' N' o1
              have N : News _ _ h ((DJ, listOf ys.toArray ys.length) :: (Dl, listOf vl.toArray cl) :: (DK, listOf vk.toArray ck) :: (q0 + 1 + 1 + 1 + 1, oO) :: (q0 + 1 + 1 + 1, oE) :: (q0 + 1 + 1, oK1) :: (q0 + 1, oC) :: tb) := N'
              clear N' FC NC rgC
              (try k_fold)
              k_steps
              refine Stop.intro ?_
              rename IntsAre _ (List.take 5 _) => iS
              (rename Fr _ _ _ _ => FC)
              (rename News _ _ _ _ => NC)
              refine name_slice NC iS ?_
              rintro Ds vS nS rfl rfl rfl
              rename @LT.lt Nat _ DJ Ds ∧ _ => lS
              obtain ⟨_, lSl, lSK, lS4, lS3, lS2, lS1, lST⟩ := lS
              have lST' : ∀ p ∈ tb, @LT.lt Nat _ p.1 Ds := allLt_lt lST
              have NC2 : News _ _ _ ((Ds, listOf vS.toArray 0) :: (Dl, listOf vl.toArray cl) :: (DK, listOf vk.toArray ck) :: (q0 + 1 + 1 + 1 + 1, oO) :: (q0 + 1 + 1 + 1, oE) :: (q0 + 1 + 1, oK1) :: (q0 + 1, oC) :: tb) := cb_drop NC (by k_allIn)
              (with_unfolding_all refine' lp_list (σ := Unit) (ax := Ds) (vs := vS) (nn := 0) (fun _ => (Ds, listOf vS.toArray 0) :: (Dl, listOf vl.toArray cl) :: (DK, listOf vk.toArray ck) :: (q0 + 1 + 1 + 1 + 1, oO) :: (q0 + 1 + 1 + 1, oE) :: (q0 + 1 + 1, oK1) :: (q0 + 1, oC) :: tb) (fun _ => []) [Str.ofString "rest", Str.ofString "kept", Str.ofString "figure", Str.ofString "place"] (fun i _ => True) () rfl ?lm iS FC NC2 ?lk trivial ?lt ?ld)
              case lm => exact .head _
              case lk => kst_all
              case lt =>
                rintro ⟨⟩ I1 it1 i num tnum u h tk hnum _ hmem1 hoff F2 N2
                clear FC NC NC2
                have hI1 : ∀ p ∈ tb, @Ne Nat p.1 I1 := fun p hp => hoff p (.tail _ (.tail _ (.tail _ (.tail _ (.tail _ (.tail _ (.tail _ hp)))))))
                (try k_fold)
                refine wp_hid ?_
                intro QN hQN
                k_steps
                refine Stop.intro ?_
                rename @LT.lt Int _ _ 1000000 => hx1
                refine name_num hx1 ?_
                rintro x rfl
                have hx0 : 0 ≤ x := by assumption
                k_dflt (refine' i2_1 ?X ?B ?F ?N ?T ?hk ?hC ?hG ?h0 ?h1 ?hd ?hu ?_; (case X => k_asm); (case B => k_asm); (case F => k_asm); (case N => k_asm); (case T => k_asm); (case hk => exact rfl); (case hC => k_asm); (case hG => (repeat (first | with_reducible assumption | refine GI.cons ?_)); done); (case h0 => assumption); (case h1 => omega); (case hd => ktr_room); (case hu => ktr_units))
                intro k Dd vd cd h9 tk9 hk1 hk2 id9 F9 N9 l9
                k_lt l9
                have hvd : vd.length = k := by rw [id9.length, digs_len]
                (try dsimp only)
                (try k_fold)
                k_steps
                refine Stop.intro ?_
                rename IntsAre _ (List.reverse _) => iR
                (rename Fr _ _ _ _ => FC)
                (rename News _ _ _ _ => NC)
                refine name_slice NC iR ?_
                rintro Dr vR _ rfl rfl rfl
                rename @LT.lt Nat _ Dd Dr ∧ _ => lR
                have NC2 : News _ _ _ ((Dr, listOf vR.toArray 0) :: (I1, it1) :: (Ds, listOf vS.toArray 0) :: (Dl, listOf vl.toArray cl) :: (DK, listOf vk.toArray ck) :: (q0 + 1 + 1 + 1 + 1, oO) :: (q0 + 1 + 1 + 1, oE) :: (q0 + 1 + 1, oK1) :: (q0 + 1, oC) :: tb) := cb_drop NC (by k_allIn)
                have hn0 : (0 : Int) < n := by omega
                (with_unfolding_all refine' lp_list (σ := Int × Tok × Int × Tok) (ax := Dr) (vs := vR) (nn := 0) (fun _ => (Dr, listOf vR.toArray 0) :: (I1, it1) :: (Ds, listOf vS.toArray 0) :: (Dl, listOf vl.toArray cl) :: (DK, listOf vk.toArray ck) :: (q0 + 1 + 1 + 1 + 1, oO) :: (q0 + 1 + 1 + 1, oE) :: (q0 + 1 + 1, oK1) :: (q0 + 1, oC) :: tb) (fun c => [(Str.ofString "rest", .int c.1 c.2.1), (Str.ofString "kept", .int c.2.2.1 c.2.2.2)]) [Str.ofString "place"] (fun i c => c.1 = hornM 1 n ((digs 1 k x).reverse.take i) ∧ 0 ≤ c.1 ∧ c.1 < (n : Int) ∧ c.2.2.1 = keepF ks c.1) (0, _, 0, _) rfl ?fm iR FC NC2 ?fk ?fp ?ft ?fd)
                case fm => exact .head _
                case fk => kst_all
                case fp => exact ⟨rfl, Int.le_refl 0, hn0, ((gkeep 0 (Int.le_refl 0) hn0).2.2.2.mpr rfl).symm⟩
                case ft =>
                  rintro ⟨r, tr, kp, tkp⟩ I2 it2 j d td u2 h2 tk2 hd ⟨p1, p2, p3, p4⟩ hmem2 hoff2 F3 N3
                  dsimp only at p1 p2 p3 p4 F3 N3
                  clear FC NC NC2 lR l9 lSl lSK lS4 lS3 lS2 lS1 lST lDK le4 le3 le2 le1 leT
                  have hdm : d ∈ digs 1 k x := List.mem_reverse.mp (List.mem_of_getElem? hd)
                  have hdb := digs_bel _ _ d hdm
                  have hd0 : 0 ≤ d := hdb.1
                  have hd2 : d < 2 := hdb.2
                  have ha := Int.emod_nonneg (2 * r + d) (Int.ne_of_gt hn0)
                  have hb := Int.emod_lt_of_pos (2 * r + d) hn0
                  have hc := Int.emod_nonneg (2 * kp + d) (Int.ne_of_gt hn0)
                  have he := Int.emod_lt_of_pos (2 * kp + d) hn0
                  have gk := gkeep r p2 p3
                  have hkp0 : 0 ≤ kp := by rw [p4]; exact gk.1
                  have hkp1 : kp < (n : Int) := by rw [p4]; exact gk.2.1
                  have hgm : ks.getD ((2 * kp + d) % (n : Int)).toNat 0 ∈ ks := getD_mem (by omega)
                  have hK : ((ks.idxOf (ks.getD ((2 * kp + d) % (n : Int)).toNat 0) : Nat) : Int) = keepF ks ((2 * r + d) % (n : Int)) := by
                    show idxF ks (ks.getD ((2 * kp + d) % (n : Int)).toNat 0) = idxF ks (ks.getD ((2 * r + d) % (n : Int)).toNat 0)
                    rw [p4, gcong r d p2 p3 hd0 hd2]
                  have gb := gbis ((2 * r + d) % (n : Int)) ha hb
                  rw [← hK] at gb
                  obtain ⟨gb1, gb2⟩ := gb
                  have gb0 := (bisL_le (leastT ks n) ((ks.idxOf (ks.getD ((2 * kp + d) % (n : Int)).toNat 0) : Nat) : Int)).1
                  (try k_fold)
                  refine wp_hid ?_
                  intro QF hQF
                  k_steps
                  refine Stop.intro ?_
                  ((with_reducible show wpAny _ _ (call (Value.ref 81) _) _ _ _); k_dflt (refine' la_g ?jX ?jB ?jF ?jN ?jT ?jhk ?jc1 ?jc2 ?jg1 ?jg2 ?ja ?jb ?jc ?jd ?je ?jf ?jhd ?jhu ?_; (case jX => k_asm); (case jB => k_asm); (case jF => k_asm); (case jN => k_asm); (case jT => k_asm); (case jhk => first | exact rfl | assumption); (case jc1 => k_asm); (case jc2 => k_asm); (case jg1 => (repeat (first | with_reducible assumption | refine GI.cons ?_)); done); (case jg2 => (repeat (first | with_reducible assumption | refine GD.cons ?_)); done); (case ja => omega); (case jb => omega); (case jc => omega); (case jd => omega); (case je => omega); (case jf => omega); (case jhd => ktr_room); (case jhu => ktr_units)); intro t9 h9 tk9 F9 N9; (try dsimp only); (try k_fold))
                  k_steps
                  refine Stop.intro ?_
                  ((with_reducible show wpAny _ _ (call (Value.ref 81) _) _ _ _); k_dflt (refine' la_g ?jX ?jB ?jF ?jN ?jT ?jhk ?jc1 ?jc2 ?jg1 ?jg2 ?ja ?jb ?jc ?jd ?je ?jf ?jhd ?jhu ?_; (case jX => k_asm); (case jB => k_asm); (case jF => k_asm); (case jN => k_asm); (case jT => k_asm); (case jhk => first | exact rfl | assumption); (case jc1 => k_asm); (case jc2 => k_asm); (case jg1 => (repeat (first | with_reducible assumption | refine GI.cons ?_)); done); (case jg2 => (repeat (first | with_reducible assumption | refine GD.cons ?_)); done); (case ja => omega); (case jb => omega); (case jc => omega); (case jd => omega); (case je => omega); (case jf => omega); (case jhd => ktr_room); (case jhu => ktr_units)); intro t9 h9 tk9 F9 N9; (try dsimp only); (try k_fold))
                  k_steps
                  refine Stop.intro ?_
                  ((with_reducible show wpAny _ _ (call (Value.ref 74) _) _ _ _); k_dflt (refine' bis_c ?jX ?jB ?jF ?jN ?jT ?jhk ?jha ?jhl ?jhi ?jhn ?jhd ?jhu ?_; (case jha => first | exact .inl rfl | exact .inr ⟨_, rfl⟩); (case jX => k_asm); (case jB => k_asm); (case jF => k_asm); (case jN => k_asm); (case jT => k_asm); (case jhk => first | exact rfl | assumption); (case jhl => k_mem); (case jhi => assumption); (case jhn => omega); (case jhd => ktr_room); (case jhu => ktr_units)); intro t9 h9 tk9 F9 N9; (try dsimp only); (try k_fold))
                  k_steps
                  subst hQF
                  (try dsimp only)
                  k_steps
                  refine' LpPost.nextL ((2 * r + d) % (n : Int), _, ((ks.idxOf (ks.getD ((2 * kp + d) % (n : Int)).toNat 0) : Nat) : Int), _) (by k_asm) (by k_asm) ?zP ?zs ?zo ?zk ?zh ?zl
                  case zk => kst_all
                  case zs => k_allIn
                  case zo => exact hoff2
                  case zh =>
                    intro z z1 z2 z3
                    have za : z ≠ Str.ofString "rest" := z2 _ (.head _)
                    have zb : z ≠ Str.ofString "kept" := z2 _ (.tail _ (.head _))
                    have zc : z ≠ Str.ofString "place" := by simpa using z3
                    simp [kstB, z1, za, zb, zc]
                  case zl => exact .head _
                  case zP =>
                    refine ⟨?_, ha, hb, hK⟩
                    dsimp only
                    rw [take_snoc hd, hornM_snoc, ← p1]
                    congr 1
                    omega
                case fd =>
                  rintro ⟨r, tr, kp, tkp⟩ u2 h2 tk2 ⟨p1, p2, p3, p4⟩ F3 N3
                  dsimp only at p1 p2 p3 p4 F3 N3
                  clear FC NC NC2
                  rw [List.take_length, horn_digs k x hx0 hk2 hn0] at p1
                  have gk := gkeep r p2 p3
                  have hkp0 : 0 ≤ kp := by rw [p4]; exact gk.1
                  have hkp1 : kp < (n : Int) := by rw [p4]; exact gk.2.1
                  have hfm : x.fmod (n : Int) = x % (n : Int) := Int.fmod_eq_emod_of_nonneg _ (Int.le_of_lt hn0)
                  have hkz : kp = 0 ↔ x.fmod (n : Int) = 0 := by rw [p4, hfm, ← p1]; exact gk.2.2.2
                  have hkk : ks.getD kp.toNat 0 = ks.getD r.toNat 0 := by rw [p4]; exact gk.2.2.1
                  have hrx : r = x.fmod (n : Int) := by rw [hfm]; exact p1
                  have hbb : ((kp == 0) != (x.fmod (n : Int) == 0)) = false := by
                    by_cases q : kp = 0
                    · have e1 : (kp == 0) = true := beq_iff_eq.mpr q
                      have e2 : (x.fmod (n : Int) == 0) = true := beq_iff_eq.mpr (hkz.mp q)
                      rw [e1, e2]; rfl
                    · have e1 : (kp == 0) = false := beq_eq_false_iff_ne.mpr q
                      have e2 : (x.fmod (n : Int) == 0) = false := beq_eq_false_iff_ne.mpr fun e => q (hkz.mpr e)
                      rw [e1, e2]; rfl
                  (try k_fold)
                  k_steps
                  subst hQN
                  (try dsimp only)
                  k_steps
                  refine' LpPost.nextL () (by k_asm) (by k_asm) ?zP ?zs ?zo ?zk ?zh ?zl
                  case zk => kst_all
                  case zs => k_allIn
                  case zo => exact hoff
                  case zh =>
                    intro z z1 z2 z3
                    have z4 : z ≠ Str.ofString "rest" ∧ z ≠ Str.ofString "kept" ∧ z ≠ Str.ofString "figure" ∧ z ≠ Str.ofString "place" := by simpa using z3
                    simp [kstB, z1, z4.1, z4.2.1, z4.2.2.1, z4.2.2.2]
                  case zl => exact .head _
                  case zP => trivial
              case ld =>
                rintro ⟨⟩ u h tk _ F2 N2
                clear FC NC NC2 lSl lSK lS4 lS3 lS2 lS1 lST lST' lDK le4 le3 le2 le1 leT
                (try k_fold)
                k_steps
                refine Stop.intro ?_
                obtain ⟨⟨dk1, dk2⟩, dk3, dk4⟩ := Stop.out pk
                (rename IsRange _ _ _ _ _ _ _ _ => rgC)
                (rename Fr _ _ _ _ => FC)
                (rename News _ _ _ _ => NC)
                have NO : News _ _ _ ((q0 + 1 + 1 + 1, oE) :: (DK, listOf vk.toArray ck) :: (q0 + 1 + 1 + 1 + 1, oO) :: (q0 + 1 + 1, oK1) :: (q0 + 1, oC) :: tb) := cb_drop NC (by k_allIn)
                (with_unfolding_all refine' lp_rangeC (σ := Obj) (n := n) (c := q0 + 1 + 1 + 1) (fun oo => (DK, listOf vk.toArray ck) :: (q0 + 1 + 1 + 1 + 1, oo) :: (q0 + 1 + 1, oK1) :: (q0 + 1, oC) :: tb) (fun _ => []) [Str.ofString "ends", Str.ofString "other"] (fun _ oo => ∃ w, oo.data = .cell w) oO (Str.ofString "one") rfl rgC (small_one (by omega) (by omega) (by omega) (by omega)) ((rangeSize_nat _ _).trans (by congr 1)) FC NO ?oo ?of ?ok ?op ?ot ?od)
                case oo => assumption
                case of => exact List.forall_mem_cons.mpr ⟨dk3, List.forall_mem_cons.mpr ⟨by k_ne, List.forall_mem_cons.mpr ⟨by k_ne, List.forall_mem_cons.mpr ⟨by k_ne, tb3⟩⟩⟩⟩
                case ok => kst_all
                case op => exact ⟨_, by assumption⟩
                case ot =>
                  rintro oo I1 it1 oE1 i t u h tk hin ⟨wo, hwo⟩ dE hoff1 hcI F2 N2
                  (try dsimp only at F2); (try dsimp only at N2)
                  clear FC NC NO rgC
                  (try k_fold)
                  refine wp_hid ?_
                  intro QO hQO
                  k_steps
                  refine Stop.intro ?_
                  (rename IsRange _ _ _ _ _ _ _ _ => rgD)
                  (rename Fr _ _ _ _ => FD)
                  (rename News _ _ _ _ => ND)
                  have NP : News _ _ _ ((q0 + 1 + 1 + 1 + 1, oo) :: (I1, it1) :: (q0 + 1 + 1 + 1, oE1) :: (DK, listOf vk.toArray ck) :: (q0 + 1 + 1, oK1) :: (q0 + 1, oC) :: tb) := cb_drop ND (by k_allIn)
                  (with_unfolding_all refine' lp_rangeC (σ := Unit) (n := i) (c := q0 + 1 + 1 + 1 + 1) (fun _ => (I1, it1) :: (q0 + 1 + 1 + 1, oE1) :: (DK, listOf vk.toArray ck) :: (q0 + 1 + 1, oK1) :: (q0 + 1, oC) :: tb) (fun _ => []) [Str.ofString "ends"] (fun _ _ => True) () (Str.ofString "other") rfl rgD (small_one (by omega) (by omega) (by omega) (by omega)) ((rangeSize_nat _ _).trans (by congr 1; omega)) FD NP hwo ?pf ?ph trivial ?pt ?pd)
                  case pf => exact List.forall_mem_cons.mpr ⟨Ne.symm (hoff1 _ (.tail _ (.head _))).1, List.forall_mem_cons.mpr ⟨by k_ne, List.forall_mem_cons.mpr ⟨dk4, List.forall_mem_cons.mpr ⟨by k_ne, List.forall_mem_cons.mpr ⟨by k_ne, tb4⟩⟩⟩⟩⟩
                  case ph => kst_all
                  case pt =>
                    rintro ⟨⟩ I2 it2 oO1 j t2 u2 h2 tk2 hjn _ dO hoff2 hcI2 F3 N3
                    (try dsimp only at F3); (try dsimp only at N3)
                    clear FD ND NP rgD
                    (try k_fold)
                    refine wp_hid ?_
                    intro QB hQB
                    k_steps
                    refine Stop.intro ?_
                    (rename IsRange _ _ _ _ _ _ _ _ => rgE)
                    (rename Fr _ _ _ _ => FE)
                    (rename News _ _ _ _ => NE)
                    have NQ : News _ _ _ ((I2, it2) :: (q0 + 1 + 1 + 1 + 1, oO1) :: (I1, it1) :: (q0 + 1 + 1 + 1, oE1) :: (DK, listOf vk.toArray ck) :: (q0 + 1 + 1, oK1) :: (q0 + 1, oC) :: tb) := cb_drop NE (by k_allIn)
                    (with_unfolding_all refine ⟨_, _, _, _, _, _, (often + 2).toNat, _, rfl, rfl, FE, NQ, rgE, small_one (by omega) (by omega) (by omega) (by omega), (rangeSize_nat _ _).trans (by rw [Int.sub_zero]), (by rw [sizeLine_eq]; omega), ?_⟩)
                    rintro _ ⟨g9, rfl⟩
                    (with_unfolding_all refine' turns_C (σ := Unit) (fun _ => (I2, it2) :: (q0 + 1 + 1 + 1 + 1, oO1) :: (I1, it1) :: (q0 + 1 + 1 + 1, oE1) :: (DK, listOf vk.toArray ck) :: (q0 + 1 + 1, oK1) :: (q0 + 1, oC) :: tb) (fun a ys _ => IntsAre ys ((rangeKs 0 a).filter fun jj => !(innerF n (0 + (i : Int)) (0 + (j : Int)) jj).isEmpty)) () .nil ?qt ?qd)
                    case qt =>
                      rintro ⟨⟩ a ys ta I oI C oC' B oB Dd h3 tk3 E' ha hP dB F4 N4 off4 nq
                      have ha5 : a < 5 := by clear nq; omega
                      have hps := pow_small (k := (0 + (a : Int)).toNat) (by clear nq; omega)
                      have hpc := kbt_cast (0 + (a : Int)).toNat
                      obtain ⟨nq1, nq2, nq3, nq4, nq5, nq6⟩ := nq
                      (try dsimp only at F4); (try dsimp only at N4)
                      clear FE NE NQ rgE
                      (try k_fold)
                      refine wp_hid ?_
                      intro QT hQT
                      k_steps
                      refine Stop.intro ?_
                      (rename IsRange _ _ _ _ _ _ _ _ => rgI)
                      (rename Fr _ _ _ _ => FI)
                      (rename News _ _ _ _ => NI)
                      have NJ : News _ _ _ ((I, oI) :: (C, oC') :: (B, oB) :: (Dd, LCg.lst ys) :: (I2, it2) :: (q0 + 1 + 1 + 1 + 1, oO1) :: (I1, it1) :: (q0 + 1 + 1 + 1, oE1) :: (DK, listOf vk.toArray ck) :: (q0 + 1 + 1, oK1) :: (q0 + 1, oC) :: tb) := cb_drop NI (by k_allIn)
                      (with_unfolding_all refine LCt.CompSrcT.range (n := 2 ^ (0 + (a : Int)).toNat) rfl FI NJ rgI (small_one (by omega) (by omega) (by omega) (by omega)) ((rangeSize_nat _ _).trans (by rw [Int.sub_zero, ← hpc, Int.toNat_natCast])) (by rw [sizeLine_eq]; omega) fun g8 => cp_restT (σ := Unit) (n := 2 ^ (0 + (a : Int)).toNat) (fun _ => (I, oI) :: (C, oC') :: (B, oB) :: (Dd, LCg.lst ys) :: (I2, it2) :: (q0 + 1 + 1 + 1 + 1, oO1) :: (I1, it1) :: (q0 + 1 + 1 + 1, oE1) :: (DK, listOf vk.toArray ck) :: (q0 + 1 + 1, oK1) :: (q0 + 1, oC) :: tb) (fun b ys2 _ => IntsAre ys2 ((rangeKs 0 b).filter (tellF n (0 + (i : Int)) (0 + (j : Int)) (0 + (a : Int))))) ?rt ?rd (2 ^ (0 + (a : Int)).toNat) 0 [] () (Nat.zero_add _) .nil)
                      case rt =>
                        rintro ⟨⟩ b ys2 v Ib oIb Cb oCb Db m₂ h4 tk4 E4 hb hv hP2 hCb hx F5 N5 off5 ⟨nr1, nr2, nr3⟩
                        obtain ⟨tv, rfl⟩ := hv
                        clear FI NI NJ rgI
                        (try dsimp only at F5); (try dsimp only at N5)
                        have hfl : (rangeKs 0 (b + 1)).filter (tellF n (0 + (i : Int)) (0 + (j : Int)) (0 + (a : Int))) = (rangeKs 0 b).filter (tellF n (0 + (i : Int)) (0 + (j : Int)) (0 + (a : Int))) ++ (if tellF n (0 + (i : Int)) (0 + (j : Int)) (0 + (a : Int)) (0 + (b : Int)) then [0 + (b : Int)] else []) := by
                          rw [rangeKs_succ, List.filter_append, filter_one]
                        by_cases ht : tellF n (0 + (i : Int)) (0 + (j : Int)) (0 + (a : Int)) (0 + (b : Int)) = true
                        · rw [if_pos ht] at hfl
                          unfold tellF at ht
                          (try k_fold)
                          refine wp_hid ?_
                          intro QR hQR
                          k_steps
                          subst hQR
                          (try dsimp only)
                          k_steps
                          refine CpEnd.put (P := fun ys2 _ => IntsAre ys2 ((rangeKs 0 (b + 1)).filter (tellF n (0 + (i : Int)) (0 + (j : Int)) (0 + (a : Int))))) () (by k_asm) (by k_asm) ?xs ?xo ?xt ?xp
                          case xs => k_allIn
                          case xo => exact off5
                          case xt => trivial
                          case xp =>
                            rw [hfl]
                            exact ints_snoc hP2
                        · rw [if_neg ht, List.append_nil] at hfl
                          have ht2 : tellF n (0 + (i : Int)) (0 + (j : Int)) (0 + (a : Int)) (0 + (b : Int)) = false := by simpa using ht
                          clear ht
                          unfold tellF at ht2
                          (try k_fold)
                          refine wp_hid ?_
                          intro QR hQR
                          k_steps
                          subst hQR
                          (try dsimp only)
                          k_steps
                          refine LCg.CompEnd.intro (by k_asm) (by k_asm) ((I, oI) :: (C, oC') :: (B, oB) :: (Dd, LCg.lst ys) :: (I2, it2) :: (q0 + 1 + 1 + 1 + 1, oO1) :: (I1, it1) :: (q0 + 1 + 1 + 1, oE1) :: (DK, listOf vk.toArray ck) :: (q0 + 1 + 1, oK1) :: (q0 + 1, oC) :: tb) ?xs (LCg.Off3.of off5) trivial ⟨(), rfl, ?xp⟩
                          case xs => k_allIn
                          case xp =>
                            rw [hfl]
                            exact hP2
                      case rd =>
                        rintro ⟨⟩ ys2 hP2
                        unfold LCg.FinE
                        intro Di h5 tk5 F6 N6 o6
                        have N7 : News _ _ _ ((Di, listOf ys2.toArray ys2.length) :: (I, oI) :: (C, oC') :: (B, oB) :: (Dd, LCg.lst ys) :: (I2, it2) :: (q0 + 1 + 1 + 1 + 1, oO1) :: (I1, it1) :: (q0 + 1 + 1 + 1, oE1) :: (DK, listOf vk.toArray ck) :: (q0 + 1 + 1, oK1) :: (q0 + 1, oC) :: tb) := N6
                        clear FI NI NJ rgI N6 o6
                        change IntsAre ys2 (innerF n (0 + (i : Int)) (0 + (j : Int)) (0 + (a : Int))) at hP2
                        have hfl : (rangeKs 0 (a + 1)).filter (fun jj => !(innerF n (0 + (i : Int)) (0 + (j : Int)) jj).isEmpty) = (rangeKs 0 a).filter (fun jj => !(innerF n (0 + (i : Int)) (0 + (j : Int)) jj).isEmpty) ++ (if (!(innerF n (0 + (i : Int)) (0 + (j : Int)) (0 + (a : Int))).isEmpty) = true then [0 + (a : Int)] else []) := by
                          rw [rangeKs_succ, List.filter_append, filter_one]
                        by_cases hE : (innerF n (0 + (i : Int)) (0 + (j : Int)) (0 + (a : Int))).isEmpty = true
                        · rw [hE, if_neg (by decide), List.append_nil] at hfl
                          have hE2 : (innerF n (0 + (i : Int)) (0 + (j : Int)) (0 + (a : Int))).isEmpty = !false := hE
                          (try k_fold)
                          k_steps
                          subst hQT
                          (try dsimp only)
                          k_steps
                          refine CompEndC.put (Led := fun _ : Unit => (I2, it2) :: (q0 + 1 + 1 + 1 + 1, oO1) :: (I1, it1) :: (q0 + 1 + 1 + 1, oE1) :: (DK, listOf vk.toArray ck) :: (q0 + 1 + 1, oK1) :: (q0 + 1, oC) :: tb) () (by k_asm) (by k_asm) ?xs off4 _ ⟨(), rfl, ?xp⟩
                          case xs => k_allIn
                          case xp =>
                            rw [hfl]
                            exact hP
                        · have hE3 : (innerF n (0 + (i : Int)) (0 + (j : Int)) (0 + (a : Int))).isEmpty = false := by simpa using hE
                          rw [hE3, if_pos (by decide)] at hfl
                          have hE2 : (innerF n (0 + (i : Int)) (0 + (j : Int)) (0 + (a : Int))).isEmpty = !true := hE3
                          (try k_fold)
                          k_steps
                          subst hQT
                          (try dsimp only)
                          k_steps
                          refine CompEndC.put (Led := fun _ : Unit => (I2, it2) :: (q0 + 1 + 1 + 1 + 1, oO1) :: (I1, it1) :: (q0 + 1 + 1 + 1, oE1) :: (DK, listOf vk.toArray ck) :: (q0 + 1 + 1, oK1) :: (q0 + 1, oC) :: tb) () (by k_asm) (by k_asm) ?xs off4 _ ⟨(), rfl, ?xp⟩
                          case xs => k_allIn
                          case xp =>
                            rw [hfl]
                            exact ints_snoc hP
                    case qd =>
                      rintro ⟨⟩ ys hP
                      unfold LCg.FinA
                      intro DE h3 tk3 F4 N4 o4
                      have N5 : News _ _ _ ((DE, listOf ys.toArray ys.length) :: (I2, it2) :: (q0 + 1 + 1 + 1 + 1, oO1) :: (I1, it1) :: (q0 + 1 + 1 + 1, oE1) :: (DK, listOf vk.toArray ck) :: (q0 + 1 + 1, oK1) :: (q0 + 1, oC) :: tb) := N4
                      clear FE NE NQ rgE N4 o4
                      change IntsAre ys (endsF n often (0 + (i : Int)) (0 + (j : Int))) at hP
                      by_cases hEq : ks.getD (0 + (i : Int)).toNat 0 = ks.getD (0 + (j : Int)).toNat 0
                      · have hEn : endsF n often (0 + (i : Int)) (0 + (j : Int)) = [] := gends _ _ (by omega) (by omega) (by omega) (by omega) hEq
                        rw [hEn] at hP
                        have hE2 : ([] : List Int).isEmpty = !false := rfl
                        (try k_fold)
                        k_steps
                        subst hQB
                        (try dsimp only)
                        k_steps
                        refine' CPost.next () (by k_asm) (by k_asm) trivial dO ?zs ?zo ?zk ?zh
                        case zs => k_allIn
                        case zo => exact hoff2
                        case zk => kst_all
                        case zh =>
                          intro z z1 z2 z3
                          have z4 : z ≠ Str.ofString "ends" := by simpa using z3
                          simp [kstB, z1, z4]
                      · (try k_fold)
                        k_steps
                        subst hQB
                        (try dsimp only)
                        k_steps
                        refine' CPost.next () (by k_asm) (by k_asm) trivial dO ?zs ?zo ?zk ?zh
                        case zs => k_allIn
                        case zo => exact hoff2
                        case zk => kst_all
                        case zh =>
                          intro z z1 z2 z3
                          have z4 : z ≠ Str.ofString "ends" := by simpa using z3
                          simp [kstB, z1, z4]
                  case pd =>
                    rintro ⟨⟩ oO2 w2 u2 h2 tk2 _ dO hoffc F3 N3
                    (try dsimp only at F3); (try dsimp only at N3)
                    clear FD ND NP rgD
                    (try k_fold)
                    k_steps
                    subst hQO
                    (try dsimp only)
                    k_steps
                    refine' CPost.next oO2 (by k_asm) (by k_asm) ?zP dE ?zs ?zo ?zk ?zh
                    case zP => exact ⟨_, dO⟩
                    case zs => k_allIn
                    case zo => exact List.forall_mem_cons.mpr ⟨hoff1 _ (.head _), List.forall_mem_cons.mpr ⟨hoff1 (q0 + 1 + 1 + 1 + 1, oo) (.tail _ (.head _)), fun p hp => hoff1 p (.tail _ (.tail _ hp))⟩⟩
                    case zk => kst_all
                    case zh =>
                      intro z z1 z2 z3
                      have z4 : z ≠ Str.ofString "ends" ∧ z ≠ Str.ofString "other" := by simpa using z3
                      simp [kstB, z1, z4.1, z4.2]
                case od =>
                  rintro oo oE2 w2 u2 h2 tk2 ⟨wo, hwo⟩ dE hoffc F3 N3
                  (try dsimp only at F3); (try dsimp only at N3)
                  clear FC NC NO rgC
                  (try k_fold)
                  k_steps
  )
end

end Mine01

theorem PySem.Challenge.cw_gy0003_01_holds : PySem.Challenge.rw_gy0003_01.Holds :=
  Mine01.law_c
