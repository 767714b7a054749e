import PyProof.Rows.All
import Wide.All
import OpenK.AllK
import Wide.FinOn
import PySem.Challenge.RW_kl0458_02
set_option compiler.extract_closed false
set_option Elab.async false
set_option maxRecDepth 100000
set_option maxHeartbeats 8000000
open PySem PySem.W PyProof.Rows
namespace Cm
section
variable {M : Model} {A : Around} {E : Value → Shared → Prop} {h h₀ : Heap} {gn : Array GenState} {dr : Drawn} {tk : Nat} {os : OsState} {L a : Addr} {m : Str → Option Value} {cn : Str} {cs : Scope} {ccd : Value} {cl : List (Str × Addr)}
  {x : Str} {v : Value} {Q : Unit → Shared → Prop} {news : List (Addr × Obj)}
/-- a store in the frame: the names' map becomes a let variable, the tokens a variable -/
theorem storeL (F : Fr h₀ L h m) (N : News h₀ L h news)
    (k : let m' : Str → Option Value := fun y => if y = x then some v else m y; ∀ h' tk', Fr h₀ L h' m' → News h₀ L h' news → Q () ⟨h', gn, dr, tk', os⟩)
    (hk : cs.kind = .function) (hx : (envX cn cs L a ccd cl).kindOf x = some .local) : wpAny M A (storeName (envX cn cs L a ccd cl) x v) Q E ⟨h, gn, dr, tk, os⟩ :=
  storeX_L (s := ⟨h, gn, dr, tk, os⟩) F N (fun h' F' N' => k h' _ F' N') hk hx
end
section
variable {a d : Nat} {P A B C D E F G : Prop}
theorem nl1 (h : a < d ∧ P) : a ≠ d := Nat.ne_of_lt h.1
theorem ng1 (h : a < d ∧ P) : d ≠ a := Nat.ne_of_gt h.1
theorem nl2 (h : A ∧ a < d ∧ P) : a ≠ d := Nat.ne_of_lt h.2.1
theorem ng2 (h : A ∧ a < d ∧ P) : d ≠ a := Nat.ne_of_gt h.2.1
theorem nl3 (h : A ∧ B ∧ a < d ∧ P) : a ≠ d := Nat.ne_of_lt h.2.2.1
theorem ng3 (h : A ∧ B ∧ a < d ∧ P) : d ≠ a := Nat.ne_of_gt h.2.2.1
theorem nl4 (h : A ∧ B ∧ C ∧ a < d ∧ P) : a ≠ d := Nat.ne_of_lt h.2.2.2.1
theorem ng4 (h : A ∧ B ∧ C ∧ a < d ∧ P) : d ≠ a := Nat.ne_of_gt h.2.2.2.1
theorem nl5 (h : A ∧ B ∧ C ∧ D ∧ a < d ∧ P) : a ≠ d := Nat.ne_of_lt h.2.2.2.2.1
theorem ng5 (h : A ∧ B ∧ C ∧ D ∧ a < d ∧ P) : d ≠ a := Nat.ne_of_gt h.2.2.2.2.1
theorem nl6 (h : A ∧ B ∧ C ∧ D ∧ E ∧ a < d ∧ P) : a ≠ d := Nat.ne_of_lt h.2.2.2.2.2.1
theorem ng6 (h : A ∧ B ∧ C ∧ D ∧ E ∧ a < d ∧ P) : d ≠ a := Nat.ne_of_gt h.2.2.2.2.2.1
theorem nl7 (h : A ∧ B ∧ C ∧ D ∧ E ∧ F ∧ a < d ∧ P) : a ≠ d := Nat.ne_of_lt h.2.2.2.2.2.2.1
theorem ng7 (h : A ∧ B ∧ C ∧ D ∧ E ∧ F ∧ a < d ∧ P) : d ≠ a := Nat.ne_of_gt h.2.2.2.2.2.2.1
end
theorem allLt_ne {d d' : Nat} {l : List (Addr × Obj)} (h : AllLt d l) (hd : d ≤ d') : ∀ p ∈ l, p.1 ≠ d' := by
  induction l with
  | nil => intro p hp; cases hp
  | cons q r ih =>
    intro p hp
    rcases List.mem_cons.mp hp with rfl | hp
    · exact Nat.ne_of_lt (Nat.lt_of_lt_of_le h.1 hd)
    · exact ih h.2 p hp
section
variable {a d : Nat} {P A B C D E F G : Prop}
theorem nn1 (h : a ≠ d ∧ P) : a ≠ d := h.1
theorem nm1 (h : a ≠ d ∧ P) : d ≠ a := Ne.symm h.1
theorem nn2 (h : A ∧ a ≠ d ∧ P) : a ≠ d := h.2.1
theorem nm2 (h : A ∧ a ≠ d ∧ P) : d ≠ a := Ne.symm h.2.1
theorem nn3 (h : A ∧ B ∧ a ≠ d ∧ P) : a ≠ d := h.2.2.1
theorem nm3 (h : A ∧ B ∧ a ≠ d ∧ P) : d ≠ a := Ne.symm h.2.2.1
theorem nn4 (h : A ∧ B ∧ C ∧ a ≠ d ∧ P) : a ≠ d := h.2.2.2.1
theorem nm4 (h : A ∧ B ∧ C ∧ a ≠ d ∧ P) : d ≠ a := Ne.symm h.2.2.2.1
theorem nn5 (h : A ∧ B ∧ C ∧ D ∧ a ≠ d ∧ P) : a ≠ d := h.2.2.2.2.1
theorem nm5 (h : A ∧ B ∧ C ∧ D ∧ a ≠ d ∧ P) : d ≠ a := Ne.symm h.2.2.2.2.1
theorem lp1 (h : a < d ∧ P) : a < d := h.1
theorem lp2 (h : A ∧ a < d ∧ P) : a < d := h.2.1
theorem lp3 (h : A ∧ B ∧ a < d ∧ P) : a < d := h.2.2.1
theorem lp4 (h : A ∧ B ∧ C ∧ a < d ∧ P) : a < d := h.2.2.2.1
theorem lp5 (h : A ∧ B ∧ C ∧ D ∧ a < d ∧ P) : a < d := h.2.2.2.2.1
theorem lp6 (h : A ∧ B ∧ C ∧ D ∧ E ∧ a < d ∧ P) : a < d := h.2.2.2.2.2.1
theorem lp7 (h : A ∧ B ∧ C ∧ D ∧ E ∧ F ∧ a < d ∧ P) : a < d := h.2.2.2.2.2.2.1
theorem mx {x N : Int} (h : x < N) (hN : 0 < N) : 0 ≤ (if 0 > x then 0 else x) ∧ (if 0 > x then 0 else x) < N := by split <;> exact ⟨by omega, by omega⟩
theorem mxe {x N : Int} (h : x ≤ N) (hN : 0 ≤ N) : 0 ≤ (if 0 > x then 0 else x) ∧ (if 0 > x then 0 else x) ≤ N := by split <;> exact ⟨by omega, by omega⟩
end
theorem memOf {α : Type} {a : α} {l : List α} (h : a ∈ l) : List.Mem a l := h
end Cm
namespace Mine02
/-- a goal kept from the walk -/
def Blk (P : Prop) : Prop := P
theorem Blk.out {P : Prop} (h : Blk P) : P := h
theorem Blk.into {P : Prop} (h : P) : Blk P := h
end Mine02
local macro_rules | `(tactic| walk_at "execs nil") => `(tactic| refine wpAny_execs_nil ?_)
local macro_rules | `(tactic| walk_at "execs cons") => `(tactic| ((with_reducible refine wpAny_execs_cons ?_); (try dsimp only); (try k_fold)))
local macro_rules | `(tactic| walk_at "storeName") => `(tactic| (k_dflt (refine Cm.storeL (by k_asm) (by k_asm) ?_ (by rfl) (by rfl)); intro _ _ _ F' N'; (try k_sweep)))
local macro_rules | `(tactic| k_mem) => `(tactic| first | with_reducible assumption | (refine Cm.memOf ?_; with_reducible assumption))
local macro_rules | `(tactic| k_all) => `(tactic| first | with_reducible assumption | exact Cm.allLt_ne (by assumption) (by omega))
local macro_rules | `(tactic| k_ne) => `(tactic| ((try dsimp only); first | (with_reducible first | assumption | (symm; assumption) | exact Cm.nl1 ‹_› | exact Cm.ng1 ‹_› | exact Cm.nl2 ‹_› | exact Cm.ng2 ‹_› | exact Cm.nl3 ‹_› | exact Cm.ng3 ‹_› | exact Cm.nl4 ‹_› | exact Cm.ng4 ‹_› | exact Cm.nl5 ‹_› | exact Cm.ng5 ‹_› | exact Cm.nl6 ‹_› | exact Cm.ng6 ‹_› | exact Cm.nl7 ‹_› | exact Cm.ng7 ‹_› | exact Cm.nn1 ‹_› | exact Cm.nm1 ‹_› | exact Cm.nn2 ‹_› | exact Cm.nm2 ‹_› | exact Cm.nn3 ‹_› | exact Cm.nm3 ‹_› | exact Cm.nn4 ‹_› | exact Cm.nm4 ‹_› | exact Cm.nn5 ‹_› | exact Cm.nm5 ‹_›) | (apply neN; omega)))

section
namespace Jn
theorem split_wp {M : Model} {Γ : Ctx} {env : Env} {Qp : Flow → Pos → Shared → Prop} {Ep : Value → Pos → Shared → Prop} : ∀ (l : List Stmt) (n : Nat) (p : Pos) (s : Shared),
    Sem.wp M Γ (execs (l.take n) env) (fun f p' s' => match f with | .next => Sem.wp M Γ (execs (l.drop n) env) Qp Ep p' s' | f => Qp f p' s') Ep p s → Sem.wp M Γ (execs l env) Qp Ep p s := by
  intro l
  induction l with
  | nil => 
    intro n p s h
    simp only [List.take_nil, List.drop_nil] at h
    exact h
  | cons a r ih =>
    intro n p s h
    cases n with
    | zero => exact h
    | succ n =>
      simp only [List.take_succ_cons, List.drop_succ_cons] at h
      rw [execs_cons, Sem.wp_bind'] at h ⊢
      refine Sem.wp_mono M Γ _ (fun f p' s' h' => ?_) (fun _ _ _ h' => h') _ _ h
      cases f with
      | next => exact ih n p' s' h'
      | _ => exact h'
/-- a checkpoint: the first n statements bring J, and the others go on from J -/
theorem execs_at {M : Model} {A : Around} {env : Env} {E : Value → Shared → Prop} {s : Shared} {Q : Flow → Shared → Prop} {l : List Stmt} (n : Nat) (J : Shared → Prop)
    (h1 : wpAny M A (execs (l.take n) env) (fun f s' => f = .next ∧ J s') E s) (h2 : ∀ s', J s' → wpAny M A (execs (l.drop n) env) Q E s') : wpAny M A (execs l env) Q E s := fun Γ p hΓ => by
  refine split_wp l n p s ?_
  refine Sem.wp_mono M Γ _ (fun f p' s' h' => ?_) (fun _ _ _ h' => h') _ _ (h1 Γ p hΓ)
  obtain ⟨rfl, h'⟩ := h'
  exact h2 s' h' Γ p' hΓ
/-- a lid: the walk does not look into it -/
def Keep (p : Prop) : Prop := p
theorem ckpt {M : Model} {A : Around} {env : Env} {E : Value → Shared → Prop} {s : Shared} {Q : Flow → Shared → Prop} {l : List Stmt} (n : Nat) (J : Heap → Prop)
    (h1 : wpAny M A (execs (l.take n) env) (fun f s' => f = .next ∧ Keep (∃ h' tk', s' = { s with heap := h', toks := tk' } ∧ J h')) E s)
    (h2 : ∀ h' tk', J h' → wpAny M A (execs (l.drop n) env) Q E { s with heap := h', toks := tk' }) : wpAny M A (execs l env) Q E s :=
  execs_at n (fun s' => ∃ h' tk', s' = { s with heap := h', toks := tk' } ∧ J h') h1 fun s' ⟨h', tk', e, j⟩ => by
    subst e
    exact h2 h' tk' j
theorem un2 {a1 a2 G : Prop} (k : a1 → a2 → G) (h : a1 ∧ a2) : G := k h.1 h.2
theorem un3 {a1 a2 a3 G : Prop} (k : a1 → a2 → a3 → G) (h : a1 ∧ a2 ∧ a3) : G := k h.1 h.2.1 h.2.2
theorem un4 {a1 a2 a3 a4 G : Prop} (k : a1 → a2 → a3 → a4 → G) (h : a1 ∧ a2 ∧ a3 ∧ a4) : G := k h.1 h.2.1 h.2.2.1 h.2.2.2
theorem un5 {a1 a2 a3 a4 a5 G : Prop} (k : a1 → a2 → a3 → a4 → a5 → G) (h : a1 ∧ a2 ∧ a3 ∧ a4 ∧ a5) : G := k h.1 h.2.1 h.2.2.1 h.2.2.2.1 h.2.2.2.2
theorem un6 {a1 a2 a3 a4 a5 a6 G : Prop} (k : a1 → a2 → a3 → a4 → a5 → a6 → G) (h : a1 ∧ a2 ∧ a3 ∧ a4 ∧ a5 ∧ a6) : G := k h.1 h.2.1 h.2.2.1 h.2.2.2.1 h.2.2.2.2.1 h.2.2.2.2.2
theorem un7 {a1 a2 a3 a4 a5 a6 a7 G : Prop} (k : a1 → a2 → a3 → a4 → a5 → a6 → a7 → G) (h : a1 ∧ a2 ∧ a3 ∧ a4 ∧ a5 ∧ a6 ∧ a7) : G := k h.1 h.2.1 h.2.2.1 h.2.2.2.1 h.2.2.2.2.1 h.2.2.2.2.2.1 h.2.2.2.2.2.2
theorem un8 {a1 a2 a3 a4 a5 a6 a7 a8 G : Prop} (k : a1 → a2 → a3 → a4 → a5 → a6 → a7 → a8 → G) (h : a1 ∧ a2 ∧ a3 ∧ a4 ∧ a5 ∧ a6 ∧ a7 ∧ a8) : G := k h.1 h.2.1 h.2.2.1 h.2.2.2.1 h.2.2.2.2.1 h.2.2.2.2.2.1 h.2.2.2.2.2.2.1 h.2.2.2.2.2.2.2
theorem un9 {a1 a2 a3 a4 a5 a6 a7 a8 a9 G : Prop} (k : a1 → a2 → a3 → a4 → a5 → a6 → a7 → a8 → a9 → G) (h : a1 ∧ a2 ∧ a3 ∧ a4 ∧ a5 ∧ a6 ∧ a7 ∧ a8 ∧ a9) : G := k h.1 h.2.1 h.2.2.1 h.2.2.2.1 h.2.2.2.2.1 h.2.2.2.2.2.1 h.2.2.2.2.2.2.1 h.2.2.2.2.2.2.2.1 h.2.2.2.2.2.2.2.2
theorem un10 {a1 a2 a3 a4 a5 a6 a7 a8 a9 a10 G : Prop} (k : a1 → a2 → a3 → a4 → a5 → a6 → a7 → a8 → a9 → a10 → G) (h : a1 ∧ a2 ∧ a3 ∧ a4 ∧ a5 ∧ a6 ∧ a7 ∧ a8 ∧ a9 ∧ a10) : G := k h.1 h.2.1 h.2.2.1 h.2.2.2.1 h.2.2.2.2.1 h.2.2.2.2.2.1 h.2.2.2.2.2.2.1 h.2.2.2.2.2.2.2.1 h.2.2.2.2.2.2.2.2.1 h.2.2.2.2.2.2.2.2.2
theorem un11 {a1 a2 a3 a4 a5 a6 a7 a8 a9 a10 a11 G : Prop} (k : a1 → a2 → a3 → a4 → a5 → a6 → a7 → a8 → a9 → a10 → a11 → G) (h : a1 ∧ a2 ∧ a3 ∧ a4 ∧ a5 ∧ a6 ∧ a7 ∧ a8 ∧ a9 ∧ a10 ∧ a11) : G := k h.1 h.2.1 h.2.2.1 h.2.2.2.1 h.2.2.2.2.1 h.2.2.2.2.2.1 h.2.2.2.2.2.2.1 h.2.2.2.2.2.2.2.1 h.2.2.2.2.2.2.2.2.1 h.2.2.2.2.2.2.2.2.2.1 h.2.2.2.2.2.2.2.2.2.2
theorem un12 {a1 a2 a3 a4 a5 a6 a7 a8 a9 a10 a11 a12 G : Prop} (k : a1 → a2 → a3 → a4 → a5 → a6 → a7 → a8 → a9 → a10 → a11 → a12 → G) (h : a1 ∧ a2 ∧ a3 ∧ a4 ∧ a5 ∧ a6 ∧ a7 ∧ a8 ∧ a9 ∧ a10 ∧ a11 ∧ a12) : G := k h.1 h.2.1 h.2.2.1 h.2.2.2.1 h.2.2.2.2.1 h.2.2.2.2.2.1 h.2.2.2.2.2.2.1 h.2.2.2.2.2.2.2.1 h.2.2.2.2.2.2.2.2.1 h.2.2.2.2.2.2.2.2.2.1 h.2.2.2.2.2.2.2.2.2.2.1 h.2.2.2.2.2.2.2.2.2.2.2
end Jn
end
namespace Mine02
theorem rest2 : True ∧ True := by w_top off; first | (walk1; all_goals trivial) | exact ⟨trivial, trivial⟩
end Mine02

section
namespace Mine02
open_top hd for PySem.Challenge.rw_kl0458_02
end Mine02
end
namespace Mine02
theorem rest3 : True ∧ True := by w_top off; first | (walk1; all_goals trivial) | exact ⟨trivial, trivial⟩
end Mine02

section
namespace DivM
set_option linter.unusedVariables false

theorem two_pow_pos (k : Nat) : (0 : Int) < 2 ^ k := kbt_pos k
theorem pow_add' (i j : Nat) : (2 : Int) ^ (i + j) = 2 ^ i * 2 ^ j := Int.pow_add 2 i j
theorem pow_succ' (i : Nat) : (2 : Int) ^ (i + 1) = 2 * 2 ^ i := by rw [Int.pow_succ]; (first | lia | omega)

theorem pow_le {i j : Nat} (h : i ≤ j) : (2 : Int) ^ i ≤ 2 ^ j := by
  obtain ⟨d, rfl⟩ := Nat.le.dest h
  rw [pow_add']
  have h1 := two_pow_pos i
  have h2 := two_pow_pos d
  have : (2 : Int) ^ i * 1 ≤ 2 ^ i * 2 ^ d := Int.mul_le_mul_of_nonneg_left (by (first | lia | omega)) (by (first | lia | omega))
  (first | lia | omega)

theorem log2_lt' {n m : Nat} (h : n < 2 ^ m) (h0 : n ≠ 0) : n.log2 < m := (Nat.log2_lt h0).mpr h

theorem bits_le {a : Int} {m : Nat} (h0 : 0 ≤ a) (h : a < 2 ^ m) : (Builtin.Int.intBits a : Int) ≤ m := by
  unfold Builtin.Int.intBits
  split
  · (first | lia | omega)
  · rename_i hne
    have hne' : a ≠ 0 := by simpa using hne
    have hn : a.natAbs < 2 ^ m := by
      have e : ((a.natAbs : Nat) : Int) = a := by (first | lia | omega)
      have c := kbt_cast m
      (first | lia | omega)
    have := log2_lt' hn (by (first | lia | omega))
    (first | lia | omega)

theorem bits_ge {b : Int} {m : Nat} (h : 2 ^ m ≤ b) : (m : Int) + 1 ≤ Builtin.Int.intBits b := by
  have hp := two_pow_pos m
  unfold Builtin.Int.intBits
  split
  · rename_i h0
    have : b = 0 := by simpa using h0
    (first | lia | omega)
  · have c := kbt_cast m
    have hn : 2 ^ m ≤ b.natAbs := by (first | lia | omega)
    have : m ≤ b.natAbs.log2 := (Nat.le_log2 (by (first | lia | omega))).mpr hn
    (first | lia | omega)

theorem noPy {a b : Int} (h : (Builtin.Int.intBits a : Int) ≤ Builtin.Int.intBits b + 4000) : Builtin.divisionGoesByPylong a b = false := by
  unfold Builtin.divisionGoesByPylong
  unfold Builtin.Int.intBits at h
  simp only [Bool.and_eq_false_iff, decide_eq_false_iff_not, Nat.not_lt]
  right
  split at h <;> split at h <;> simp_all <;> (first | lia | omega)

/-- a quotient is told by its equation -/
theorem ediv_of {a b q r : Int} (h : a = q * b + r) (h0 : 0 ≤ r) (h1 : r < b) : a / b = q ∧ a % b = r := by
  refine (Int.ediv_emod_unique (by (first | lia | omega))).mpr ⟨?_, h0, h1⟩
  rw [h, Int.mul_comm]; (first | lia | omega)

theorem div_lt_pow {a : Int} {m : Nat} {c : Int} (h : a < 2 ^ m * c) : a / 2 ^ m < c := by
  refine Int.ediv_lt_of_lt_mul (two_pow_pos m) ?_
  rw [Int.mul_comm]; exact h

theorem or_low {q y : Int} {k : Nat} (hq : 0 ≤ q) (h0 : 0 ≤ y) (h1 : y < 2 ^ k) : Builtin.bitOr (q * 2 ^ k) y = q * 2 ^ k + y := by
  have hp := two_pow_pos k
  have hx : 0 ≤ q * 2 ^ k := Int.mul_nonneg hq (by (first | lia | omega))
  have c := kbt_cast k
  have hy : y.toNat < 2 ^ k := by (first | lia | omega)
  have e1 : (q * 2 ^ k).toNat = q.toNat * 2 ^ k := by
    have : ((q.toNat * 2 ^ k : Nat) : Int) = q * 2 ^ k := by
      rw [Int.natCast_mul, c, Int.toNat_of_nonneg hq]
    (first | lia | omega)
  have e2 : (q.toNat * 2 ^ k) &&& y.toNat = 0 := by
    have h3 := nat_or_add_and (q.toNat * 2 ^ k) y.toNat
    have h4 : (q.toNat * 2 ^ k) ||| y.toNat = q.toNat * 2 ^ k + y.toNat := by
      have := Nat.two_pow_add_eq_or_of_lt hy q.toNat
      rw [Nat.mul_comm] at this
      exact this.symm
    (first | lia | omega)
  rw [bitOr_and, bitAnd_pp hx h0, e1, e2]
  simp

/-- the two calls' arguments, of the halves -/
theorem d21a {a b n h vm a12 x a3 b1 b2 : Int} (hn : n = 2 * h) (h0 : 0 < h) (ha : 0 ≤ a) (hb0 : 2 ^ (n.toNat - 1) ≤ b) (hb : b < 2 ^ n.toNat) (hab : a < 2 ^ n.toNat * b)
    (hvm : vm = 1 * 2 ^ h.toNat) (ha12 : a12 = a / 2 ^ n.toNat) (hx : x = a / 2 ^ h.toNat) (ha3 : a3 = Builtin.bitAnd x (vm - 1)) (hb1 : b1 = b / 2 ^ h.toNat) (hb2 : b2 = Builtin.bitAnd b (vm - 1)) :
    0 ≤ a12 ∧ a12 < b ∧ 0 ≤ a3 ∧ a3 < 2 ^ h.toNat ∧ b = b1 * 2 ^ h.toNat + b2 ∧ 0 ≤ b2 ∧ b2 < 2 ^ h.toNat ∧ 2 ^ (h.toNat - 1) ≤ b1 ∧ b1 < 2 ^ h.toNat ∧ a12 * 2 ^ h.toNat + a3 = a / 2 ^ h.toNat := by
  have hnk : n.toNat = h.toNat + h.toNat := by (first | lia | omega)
  rw [hnk] at hb0 hb hab ha12
  have hK0 : 0 < h.toNat := by (first | lia | omega)
  generalize h.toNat = K at *
  obtain ⟨k, rfl⟩ : ∃ k : Nat, K = k + 1 := ⟨K - 1, by (first | lia | omega)⟩
  clear hnk
  have hp := two_pow_pos (k + 1)
  have hpp := two_pow_pos (k + 1 + (k + 1))
  have e2 := pow_add' (k + 1) (k + 1)
  have e1 : vm - 1 = 2 ^ (k + 1) - 1 := by (first | lia | omega)
  rw [e1, kbt_mask] at ha3 hb2
  have m1 := Int.emod_nonneg x (show (2 : Int) ^ (k + 1) ≠ 0 by (first | lia | omega))
  have m2 := Int.emod_lt_of_pos x hp
  have m3 := Int.emod_nonneg b (show (2 : Int) ^ (k + 1) ≠ 0 by (first | lia | omega))
  have m4 := Int.emod_lt_of_pos b hp
  have b3 := Int.mul_ediv_add_emod b (2 ^ (k + 1))
  have b4 : b = b1 * 2 ^ (k + 1) + b2 := by rw [hb1, hb2, Int.mul_comm]; exact b3.symm
  have bpos : 0 < b := by
    have := two_pow_pos (k + 1 + (k + 1) - 1)
    (first | lia | omega)
  refine ⟨?_, ?_, ?_, ?_, b4, ?_, ?_, ?_, ?_, ?_⟩
  · rw [ha12]; exact Int.ediv_nonneg ha (by (first | lia | omega))
  · rw [ha12]; exact div_lt_pow hab
  · (first | lia | omega)
  · (first | lia | omega)
  · (first | lia | omega)
  · (first | lia | omega)
  · rw [hb1]
    refine (Int.le_ediv_iff_mul_le hp).mpr ?_
    have : (2 : Int) ^ (k + 1 - 1) * 2 ^ (k + 1) = 2 ^ (k + 1 + (k + 1) - 1) := by
      rw [← pow_add']; congr 1; (first | lia | omega)
    rw [this]; exact hb0
  · rw [hb1]
    refine Int.ediv_lt_of_lt_mul hp ?_
    rw [← e2]; exact hb
  · rw [ha12, ha3, hx, e2, ← Int.ediv_ediv_of_nonneg (by (first | lia | omega))]
    have := Int.mul_ediv_add_emod (a / 2 ^ (k + 1)) (2 ^ (k + 1))
    rw [Int.mul_comm] at this
    exact this

theorem d21b {a b h vm q1 r1 a3 q2 r2 w1 w2 : Int} (h0 : 0 < h) (ha : 0 ≤ a) (hb : 0 < b) (hvm : vm = 1 * 2 ^ h.toNat) (h1 : a / 2 ^ h.toNat = q1 * b + r1) (hr0 : 0 ≤ r1) (hr1 : r1 < b)
    (ha3 : a3 = Builtin.bitAnd a (vm - 1)) (h2 : r1 * 2 ^ h.toNat + a3 = q2 * b + r2) (hs0 : 0 ≤ r2) (hs1 : r2 < b) (hw1 : w1 = q1 * 2 ^ h.toNat) (hw2 : w2 = Builtin.bitOr w1 q2) :
    a = w2 * b + r2 := by
  have hp := two_pow_pos h.toNat
  have e1 : vm - 1 = 2 ^ h.toNat - 1 := by (first | lia | omega)
  rw [e1, kbt_mask] at ha3
  have m1 := Int.emod_nonneg a (show (2 : Int) ^ h.toNat ≠ 0 by (first | lia | omega))
  have m2 := Int.emod_lt_of_pos a hp
  have b3 := Int.mul_ediv_add_emod a (2 ^ h.toNat)
  have n1 : 0 ≤ a / 2 ^ h.toNat := Int.ediv_nonneg ha (by (first | lia | omega))
  have q1n : 0 ≤ q1 := by
    have := (ediv_of h1 hr0 hr1).1
    rw [← this]; exact Int.ediv_nonneg n1 (by (first | lia | omega))
  have z1 : 0 ≤ r1 * 2 ^ h.toNat := Int.mul_nonneg hr0 (by (first | lia | omega))
  have q2e := (ediv_of h2 hs0 hs1).1
  have q2n : 0 ≤ q2 := by rw [← q2e]; exact Int.ediv_nonneg (by (first | lia | omega)) (by (first | lia | omega))
  have q2l : q2 < 2 ^ h.toNat := by
    rw [← q2e]
    refine Int.ediv_lt_of_lt_mul hb ?_
    have : (r1 + 1) * 2 ^ h.toNat ≤ b * 2 ^ h.toNat := Int.mul_le_mul_of_nonneg_right (by (first | lia | omega)) (by (first | lia | omega))
    rw [Int.add_mul, Int.one_mul] at this
    rw [Int.mul_comm (2 ^ h.toNat) b]
    (first | lia | omega)
  rw [hw1, or_low q1n q2n q2l] at hw2
  rw [hw2, Int.add_mul]
  have e3 : q1 * 2 ^ h.toNat * b = 2 ^ h.toNat * (q1 * b) := by
    rw [Int.mul_comm q1, Int.mul_assoc]
  rw [e3]
  have e4 : 2 ^ h.toNat * (a / 2 ^ h.toNat) = 2 ^ h.toNat * (q1 * b) + 2 ^ h.toNat * r1 := by rw [h1, Int.mul_add]
  have e5 : 2 ^ h.toNat * r1 = r1 * 2 ^ h.toNat := Int.mul_comm _ _
  (first | lia | omega)

/-- sizes of what the second half hands on -/
theorem d21c {a b h q1 r1 : Int} {n : Nat} (hb : 0 < b) (h1 : a = q1 * b + r1) (hr0 : 0 ≤ r1) (hr1 : r1 < b) (ha : 0 ≤ a) (hab : a < 2 ^ n * b) : 0 ≤ q1 ∧ q1 < 2 ^ n := by
  have e := (ediv_of h1 hr0 hr1).1
  constructor
  · rw [← e]; exact Int.ediv_nonneg ha (by (first | lia | omega))
  · rw [← e]; exact Int.ediv_lt_of_lt_mul hb hab

theorem d3a {a12 b1 b2 b n : Int} (hb : b = b1 * 2 ^ n.toNat + b2) (h2 : 0 ≤ b2) (h2' : b2 < 2 ^ n.toNat) (h0 : 0 ≤ a12) (h1 : a12 < b) (v : Int) (hv : v = a12 / 2 ^ n.toNat) : v ≤ b1 ∧ (v ≠ b1 → a12 < 2 ^ n.toNat * b1) := by
  have hp := two_pow_pos n.toNat
  have e : a12 / 2 ^ n.toNat < b1 + 1 := by
    refine Int.ediv_lt_of_lt_mul hp ?_
    rw [Int.add_mul, Int.one_mul]
    (first | lia | omega)
  refine ⟨by (first | lia | omega), fun hne => ?_⟩
  have h3 : a12 / 2 ^ n.toNat < b1 := by (first | lia | omega)
  have h4 := Int.lt_mul_of_ediv_lt hp h3
  rw [Int.mul_comm]; exact h4

theorem dm_facts {a b : Int} (hb : 0 < b) : a = a.fdiv b * b + a.fmod b ∧ 0 ≤ a.fmod b ∧ a.fmod b < b := by
  rw [Int.fdiv_eq_ediv_of_nonneg _ (by (first | lia | omega)), Int.fmod_eq_emod_of_nonneg _ (by (first | lia | omega))]
  have h1 := Int.mul_ediv_add_emod a b
  have h2 := Int.emod_nonneg a (show b ≠ 0 by (first | lia | omega))
  have h3 := Int.emod_lt_of_pos a hb
  rw [Int.mul_comm] at h1
  exact ⟨h1.symm, h2, h3⟩

theorem d21pad {a b n a' b' : Int} (hn : 0 < n) (ha : 0 ≤ a) (hb0 : 2 ^ (n.toNat - 1) ≤ b) (hb : b < 2 ^ n.toNat) (hab : a < 2 ^ n.toNat * b) (ha' : a' = a * 2) (hb' : b' = b * 2) :
    0 ≤ a' ∧ 2 ^ ((n + 1).toNat - 1) ≤ b' ∧ b' < 2 ^ (n + 1).toNat ∧ a' < 2 ^ (n + 1).toNat * b' := by
  have e : (n + 1).toNat = n.toNat + 1 := by (first | lia | omega)
  rw [e]
  have e2 := pow_succ' n.toNat
  have e3 : (2 : Int) ^ n.toNat = 2 * 2 ^ (n.toNat - 1) := by
    rw [← pow_succ']; congr 1; (first | lia | omega)
  refine ⟨by (first | lia | omega), by rw [show n.toNat + 1 - 1 = n.toNat by (first | lia | omega)]; (first | lia | omega), by (first | lia | omega), ?_⟩
  rw [e2, hb', show 2 * (2 : Int) ^ n.toNat * (b * 2) = 4 * (2 ^ n.toNat * b) by rw [Int.mul_assoc, ← Int.mul_assoc _ b 2]; (first | lia | omega)]
  have := Int.mul_nonneg (show (0 : Int) ≤ 2 ^ n.toNat by have := two_pow_pos n.toNat; (first | lia | omega)) (show 0 ≤ b by have := two_pow_pos (n.toNat - 1); (first | lia | omega))
  (first | lia | omega)

theorem d21unpad {a b a' b' q r x : Int} (ha' : a' = a * 2) (hb' : b' = b * 2) (h : a' = q * b' + r) (h0 : 0 ≤ r) (h1 : r < b') (hx : x = r / 2) : a = q * b + x ∧ 0 ≤ x ∧ x < b := by
  rw [hb', show q * (b * 2) = 2 * (q * b) by rw [← Int.mul_assoc]; (first | lia | omega)] at h
  (first | lia | omega)

theorem bits_mul2 {a x : Int} {m : Nat} (h0 : 0 ≤ a) (h : a < 2 ^ m) (hx : x = a * 2) : (Builtin.Int.intBits x : Int) ≤ m + 1 := by
  have := bits_le (a := x) (m := m + 1) (by (first | lia | omega)) (by rw [pow_succ']; (first | lia | omega))
  (first | lia | omega)

theorem half_of {m h : Int} (hh : h = m / 2) (hm : m % 2 = 0) : m = 2 * h := by (first | lia | omega)

theorem d21a3 {a h a3 : Int} (ha : 0 ≤ a) (ha3 : a3 = Builtin.bitAnd a (1 * 2 ^ h.toNat - 1)) : 0 ≤ a3 ∧ a3 < 2 ^ h.toNat := by
  have hp := two_pow_pos h.toNat
  rw [show (1 : Int) * 2 ^ h.toNat - 1 = 2 ^ h.toNat - 1 by (first | lia | omega), kbt_mask] at ha3
  have m1 := Int.emod_nonneg a (show (2 : Int) ^ h.toNat ≠ 0 by (first | lia | omega))
  have m2 := Int.emod_lt_of_pos a hp
  (first | lia | omega)
theorem lt_mix {a12 a3 b : Int} {k : Nat} (h3 : a3 < 2 ^ k) (h : a12 < b) : a12 * 2 ^ k + a3 < 2 ^ k * b := by
  have hp := two_pow_pos k
  have : 2 ^ k * (a12 + 1) ≤ 2 ^ k * b := Int.mul_le_mul_of_nonneg_left (by (first | lia | omega)) (by (first | lia | omega))
  rw [Int.mul_add, Int.mul_one, Int.mul_comm] at this
  (first | lia | omega)

theorem d21z {a12 a3 b q r : Int} {k : Nat} (h0 : 0 ≤ a12) (h1 : a12 < b) (h2 : 0 ≤ a3) (h3 : a3 < 2 ^ k) (e : a12 * 2 ^ k + a3 = q * b + r) (r0 : 0 ≤ r) (r1 : r < b) : 0 ≤ q ∧ q < 2 ^ k := by
  have hp := two_pow_pos k
  have : 0 ≤ a12 * 2 ^ k := Int.mul_nonneg h0 (by (first | lia | omega))
  exact d21c (h := 0) (by (first | lia | omega)) e r0 r1 (by (first | lia | omega)) (lt_mix h3 h1)

theorem mulOk {a b : Int} (h : (Builtin.Int.intBits a : Int) + Builtin.Int.intBits b ≤ 2 ^ 27) : IntMulOk a b := by
  unfold IntMulOk
  have : Builtin.Int.intTooBig ((Builtin.Int.intBits a : Int) + Builtin.Int.intBits b) = false := decide_eq_false (Int.not_lt.mpr h)
  rw [this, Bool.and_false]
  exact Bool.false_ne_true

/-- the first way's rest -/
theorem d3r {a12 b1 n v1 v : Int} (hv1 : v1 = a12 / 2 ^ n.toNat) (he : v1 = b1) (hv : v = b1 * 2 ^ n.toNat) : 0 ≤ a12 - v ∧ a12 - v < 2 ^ n.toNat := by
  have hp := two_pow_pos n.toNat
  have m1 := Int.emod_nonneg a12 (show (2 : Int) ^ n.toNat ≠ 0 by (first | lia | omega))
  have m2 := Int.emod_lt_of_pos a12 hp
  have b3 := Int.mul_ediv_add_emod a12 (2 ^ n.toNat)
  rw [← hv1, he, Int.mul_comm] at b3
  (first | lia | omega)
theorem d3sz {a12 b1 n v1 v : Int} (hn : 0 < n) (hn6 : n ≤ 1000000) (h1 : 0 < b1) (hb1 : b1 < 2 ^ n.toNat) (hv1 : v1 = a12 / 2 ^ n.toNat) (he : v1 = b1) (hv : v = b1 * 2 ^ n.toNat) :
    (Builtin.Int.intBits (a12 - v + b1) : Int) + n ≤ 2 ^ 27 := by
  have h := d3r hv1 he hv
  have := bits_le (a := a12 - v + b1) (m := n.toNat + 1) (by (first | lia | omega)) (by rw [pow_succ']; (first | lia | omega))
  (first | lia | omega)

/-- the loop's start, from either way: r·2^n | a3 less q·b2 -/
theorem d3in {a12 a3 b b1 b2 n q r x y : Int} (ha2 : 0 ≤ a3) (ha3 : a3 < 2 ^ n.toNat) (hb : b = b1 * 2 ^ n.toNat + b2) (e : a12 = q * b1 + r) (hr : 0 ≤ r) (hx : x = r * 2 ^ n.toNat) (hy : y = Builtin.bitOr x a3) :
    a12 * 2 ^ n.toNat + a3 = q * b + (y - q * b2) := by
  rw [hx, or_low hr ha2 ha3] at hy
  rw [hy, hb, e, Int.add_mul, Int.mul_add, Int.mul_assoc]
  (first | lia | omega)
theorem d3lt2 {a3 b b1 b2 n q r x y : Int} (ha2 : 0 ≤ a3) (ha3 : a3 < 2 ^ n.toNat) (hb : b = b1 * 2 ^ n.toNat + b2) (hb2 : 0 ≤ b2) (hq : 0 ≤ q) (hr : 0 ≤ r) (hr1 : r < b1) (hx : x = r * 2 ^ n.toNat) (hy : y = Builtin.bitOr x a3) : y - q * b2 < b := by
  rw [hx, or_low hr ha2 ha3] at hy
  have h1 : (r + 1) * 2 ^ n.toNat ≤ b1 * 2 ^ n.toNat := Int.mul_le_mul_of_nonneg_right (by (first | lia | omega)) (by have := two_pow_pos n.toNat; (first | lia | omega))
  rw [Int.add_mul, Int.one_mul] at h1
  have h2 : 0 ≤ q * b2 := Int.mul_nonneg hq hb2
  (first | lia | omega)
theorem d3lt1 {a12 a3 b n z : Int} (ha3 : a3 < 2 ^ n.toNat) (h1 : a12 < b) (e : a12 * 2 ^ n.toNat + a3 = (1 * 2 ^ n.toNat - 1) * b + z) : z < b := by
  have h := lt_mix ha3 h1
  rw [Int.one_mul, Int.sub_mul, Int.one_mul] at e
  (first | lia | omega)
theorem d3e1 {a12 b1 n v : Int} (hv : v = b1 * 2 ^ n.toNat) : a12 = (1 * 2 ^ n.toNat - 1) * b1 + (a12 - v + b1) := by
  rw [hv, Int.one_mul, Int.sub_mul, Int.one_mul, Int.mul_comm b1]; (first | lia | omega)
theorem d3turn {a b q r : Int} (e : a = q * b + r) : a = (q - 1) * b + (r + b) := by
  rw [Int.sub_mul, Int.one_mul]; (first | lia | omega)

theorem d3r0 {a12 b1 n v1 v : Int} (h1 : 0 < b1) (hv1 : v1 = a12 / 2 ^ n.toNat) (he : v1 = b1) (hv : v = b1 * 2 ^ n.toNat) : 0 ≤ a12 - v + b1 := by
  have h := d3r hv1 he hv
  (first | lia | omega)
end DivM
end
namespace Mine02
theorem rest4 : True ∧ True := by w_top off; first | (walk1; all_goals trivial) | exact ⟨trivial, trivial⟩
end Mine02

section
namespace Bm
/-- the number of a row of bytes, highest first -/
def beN (l : List UInt8) : Int := l.foldl (fun n c => n * 256 + (c.toNat : Int)) 0
theorem pow256_pos (n : Nat) : 0 < (256 : Int) ^ n := Int.pow_pos (by decide)
theorem pow_8 (n : Nat) : (2 : Int) ^ (8 * n) = 256 ^ n := by rw [Int.pow_mul]; rfl
theorem be_fold (l : List UInt8) : ∀ a : Int, l.foldl (fun n c => n * 256 + (c.toNat : Int)) a = a * 256 ^ l.length + beN l := by
  induction l with
  | nil => intro a; simp [beN]
  | cons c r ih =>
    intro a
    unfold beN
    rw [List.foldl_cons, List.foldl_cons, ih, ih, List.length_cons, Int.pow_succ', Int.add_mul, Int.add_mul, Int.mul_assoc, Int.zero_mul, Int.zero_mul]
    omega
theorem be_app (a b : List UInt8) : beN (a ++ b) = beN a * 256 ^ b.length + beN b := by
  unfold beN
  rw [List.foldl_append]
  exact be_fold b _
theorem be_snoc (a : List UInt8) (c : UInt8) : beN (a ++ [c]) = beN a * 256 + (c.toNat : Int) := by
  unfold beN
  rw [List.foldl_append]
  rfl
theorem be_cons (c : UInt8) (r : List UInt8) : beN (c :: r) = (c.toNat : Int) * 256 ^ r.length + beN r := by
  have := be_app [c] r
  rw [List.singleton_append] at this
  rw [this]
  simp [beN]
theorem be_nn (l : List UInt8) : 0 ≤ beN l ∧ beN l < 256 ^ l.length := by
  induction l with
  | nil => exact ⟨by decide, by decide⟩
  | cons c r ih =>
    rw [be_cons, List.length_cons, Int.pow_succ]
    have h1 := c.toNat_lt
    have h2 := pow256_pos r.length
    have h3 : (c.toNat : Int) * 256 ^ r.length ≤ 255 * 256 ^ r.length := Int.mul_le_mul_of_nonneg_right (by omega) (by omega)
    have h4 : 0 ≤ (c.toNat : Int) * 256 ^ r.length := Int.mul_nonneg (by omega) (by omega)
    omega
theorem be_cut (a b : List UInt8) : beN (a ++ b) / 256 ^ b.length = beN a ∧ beN (a ++ b) % 256 ^ b.length = beN b := by
  have := be_nn b
  refine DivM.ediv_of (be_app a b) this.1 this.2
theorem be_part {l : List UInt8} {o c : Nat} (h : o + c ≤ l.length) : beN l / 256 ^ (l.length - o - c) % 256 ^ c = beN ((l.drop o).take c) := by
  have e : l = (l.take o ++ (l.drop o).take c) ++ (l.drop o).drop c := by rw [List.append_assoc, List.take_append_drop, List.take_append_drop]
  have h1 : ((l.drop o).drop c).length = l.length - o - c := by rw [List.length_drop, List.length_drop]
  have h2 : ((l.drop o).take c).length = c := by rw [List.length_take, List.length_drop]; omega
  have a := (be_cut (l.take o ++ (l.drop o).take c) ((l.drop o).drop c)).1
  have b := (be_cut (l.take o) ((l.drop o).take c)).2
  rw [← e, h1] at a
  rw [h2] at b
  rw [a, b]
theorem be_one (c : UInt8) : beN [c] = (c.toNat : Int) := by simp [beN]
theorem be_byte {l : List UInt8} {j : Nat} (h : j < l.length) : beN l / 256 ^ (l.length - 1 - j) % 256 = ((l[j].toNat : Nat) : Int) := by
  have a := be_part (l := l) (o := j) (c := 1) (by omega)
  rw [show l.length - j - 1 = l.length - 1 - j by omega, List.drop_eq_getElem_cons h, List.take_succ_cons, List.take_zero, be_one] at a
  exact a
/-- the bytes of a number, highest first -/
def hiL (x : Int) (n : Nat) : List UInt8 := (List.range n).map fun j => (x / 2 ^ (8 * (n - 1 - j)) % 256).toNat.toUInt8
theorem hi_be (l : List UInt8) : hiL (beN l) l.length = l := by
  unfold hiL
  refine List.ext_getElem (by simp) fun j h1 h2 => ?_
  rw [List.getElem_map, List.getElem_range, pow_8, be_byte h2, Int.toNat_natCast]
  simp
theorem hi_part {l : List UInt8} {o c : Nat} (h : o + c ≤ l.length) : hiL (beN l / 2 ^ (8 * (l.length - o - c)) % 256 ^ c) c = (l.drop o).take c := by
  have h2 : ((l.drop o).take c).length = c := by rw [List.length_take, List.length_drop]; omega
  have := hi_be ((l.drop o).take c)
  rw [h2] at this
  rw [pow_8, be_part h, this]
/-- like bytes -/
theorem be_rep (c : UInt8) (n : Nat) : beN (List.replicate n c) = (c.toNat : Int) * (256 ^ n - 1) / 255 := by
  have key : beN (List.replicate n c) * 255 = (c.toNat : Int) * (256 ^ n - 1) := by
    induction n with
    | zero => simp [beN]
    | succ n ih =>
      rw [List.replicate_succ', be_snoc, Int.pow_succ, Int.add_mul]
      have e : (c.toNat : Int) * (256 ^ n * 256 - 1) = (c.toNat : Int) * (256 ^ n - 1) * 256 + (c.toNat : Int) * 255 := by
        rw [Int.mul_assoc, ← Int.mul_add]
        congr 1
        omega
      rw [e, ← ih]
      omega
  rw [← key, Int.mul_ediv_cancel _ (by decide)]
end Bm
end
namespace Mine02
theorem rest5 : True ∧ True := by w_top off; first | (walk1; all_goals trivial) | exact ⟨trivial, trivial⟩
end Mine02

section
namespace Mine02
open DivM

section
variable {prog : Program} {w : World} {A : Around} {E : Value → Shared → Prop} {s : Shared} {a b n : Int} {t u : Tok} {Q : Value → Shared → Prop}
theorem my_rshift (hn : 0 ≤ n) (h : ∀ v, v = a / 2 ^ n.toNat → Q (.int v s.toks) { s with toks := s.toks + 1 }) : wpAny (model prog w) A (binaryOp .RShift (.int a t) (.int n u)) Q E s :=
  rshift_int hn (by rw [Int.fdiv_eq_ediv_of_nonneg _ (by have := two_pow_pos n.toNat; (first | lia | omega))]; exact h _ rfl)
theorem my_irshift (hn : 0 ≤ n) (h : ∀ v, v = a / 2 ^ n.toNat → Q (.int v s.toks) { s with toks := s.toks + 1 }) : wpAny (model prog w) A (inplaceOp .RShift (.int a t) (.int n u)) Q E s :=
  irshift_int hn (by rw [Int.fdiv_eq_ediv_of_nonneg _ (by have := two_pow_pos n.toNat; (first | lia | omega))]; exact h _ rfl)
theorem my_lshift (hn : 0 ≤ n) (hz : (Builtin.Int.intBits a : Int) + n ≤ 2 ^ 27) (h : ∀ v, v = a * 2 ^ n.toNat → Q (.int v s.toks) { s with toks := s.toks + 1 }) : wpAny (model prog w) A (binaryOp .LShift (.int a t) (.int n u)) Q E s :=
  lshift_int hn hz (h _ rfl)
theorem my_ilshift (hn : 0 ≤ n) (hz : (Builtin.Int.intBits a : Int) + n ≤ 2 ^ 27) (h : ∀ v, v = a * 2 ^ n.toNat → Q (.int v s.toks) { s with toks := s.toks + 1 }) : wpAny (model prog w) A (inplaceOp .LShift (.int a t) (.int n u)) Q E s :=
  ilshift_int hn hz (h _ rfl)
theorem my_and (h : ∀ v, v = Builtin.bitAnd a b → Q (.int v s.toks) { s with toks := s.toks + 1 }) : wpAny (model prog w) A (binaryOp .BitAnd (.int a t) (.int b u)) Q E s := and_int (h _ rfl)
theorem my_mul (hz : (Builtin.Int.intBits a : Int) + Builtin.Int.intBits b ≤ 2 ^ 27) (h : Q (.int (a * b) s.toks) { s with toks := s.toks + 1 }) : wpAny (model prog w) A (binaryOp .Mult (.int a t) (.int b u)) Q E s := mul_int h (mulOk hz)
theorem my_or (h : ∀ v, v = Builtin.bitOr a b → Q (.int v s.toks) { s with toks := s.toks + 1 }) : wpAny (model prog w) A (binaryOp .BitOr (.int a t) (.int b u)) Q E s := or_int (h _ rfl)
end
theorem allLt_mem {d : Addr} {l : List (Addr × Obj)} (h : AllLt d l) : ∀ p ∈ l, p.1 < d := by
  induction l with
  | nil => intro p hp; cases hp
  | cons q r ih =>
    intro p hp
    rcases List.mem_cons.mp hp with rfl | hp
    · exact h.1
    · exact ih h.2 p hp
theorem nd1 {h₀ h : Heap} {L : Addr} {x y : Addr × Obj} {r : List (Addr × Obj)} (N : News h₀ L h (x :: y :: r)) : News h₀ L h (x :: r) :=
  cb_drop N fun p hp => by
    rcases List.mem_cons.mp hp with rfl | hp
    · exact .head _
    · exact .tail _ (.tail _ hp)
section
variable {prog : Program} {w : World} {A : Around} {E : Value → Shared → Prop} {s : Shared} {env : Env} {h₀ : Heap} {L : Addr} {Q : Flow → Shared → Prop}
/-- a while by a word over the names alone; the ledger stands -/
theorem my_while {test : Expr} {body : List Stmt} {pos : Pos} {m : Str → Option Value} {news : List (Addr × Obj)} (J : Nat → (Str → Option Value) → Prop) {n₀ : Nat}
    (F : Fr h₀ L s.heap m) (N : News h₀ L s.heap news) (hJ : J n₀ m) (hE : PassesOwn (model prog w) A env E)
    (turn : ∀ n m₁ h₁ tk₁, Fr h₀ L h₁ m₁ → News h₀ L h₁ news → J n m₁ →
      wpAny (model prog w) A (isTrue test env (eval test env)) (fun b s₂ =>
        if b = true then wpAny (model prog w) A (execs body env) (WhileStep2 h₀ L s (fun n m nx => nx = news ∧ J n m) Q n) E s₂ else Q .next s₂) E { s with heap := h₁, toks := tk₁ }) :
    wpAny (model prog w) A (exec (.While test body [] pos) env) Q E s :=
  While_inv2 (fun n m nx => nx = news ∧ J n m) F N ⟨rfl, hJ⟩ (fun n m₁ nx h₁ tk₁ F₁ N₁ hj => by
    obtain ⟨rfl, hj⟩ := hj
    exact turn n m₁ h₁ tk₁ F₁ N₁ hj) hE
end
theorem bits_one : (Builtin.Int.intBits 1 : Int) = 1 := by decide +kernel

theorem fr_named {g : Heap} {L : Addr} {h : Heap} {m : Str → Option Value} (ps : List (Str × Value)) (hp : ∀ p ∈ ps, m p.1 = some p.2) (F : Fr g L h m) : Fr g L h (kstB m ps) := by
  have e : kstB m ps = m := by
    funext y
    exact kstB_eq hp fun _ => rfl
  rw [e]; exact F

def NmAre (m : Str → Option Value) (ps : List (Str × Value)) : Prop := ∀ p ∈ ps, m p.1 = some p.2
theorem nm_nil {m : Str → Option Value} : NmAre m [] := fun _ h => nomatch h
theorem nm_cons {m : Str → Option Value} {n : Str} {v : Value} {ps : List (Str × Value)} (h : m n = some v) (r : NmAre m ps) : NmAre m ((n, v) :: ps) := fun p hp => by
  rcases List.mem_cons.mp hp with rfl | hp
  · exact h
  · exact r p hp
theorem fr_fold {g : Heap} {L : Addr} {h : Heap} {m : Str → Option Value} {ps : List (Str × Value)} {G : Prop} (F : Fr g L h m) (hp : NmAre m ps) (k : let m' : Str → Option Value := kstB m ps; Fr g L h m' → G) : G := k (fr_named ps hp F)
theorem fr_nm {g : Heap} {L : Addr} {h : Heap} {m : Str → Option Value} {ps : List (Str × Value)} (F : Fr g L h m) (hp : NmAre m ps) : Fr g L h (kstB m ps) := fr_named ps hp F
/-- the padded numbers -/
def Pad (a b n v a' b' n' : Int) : Prop := (v = 0 ∧ a' = a ∧ b' = b ∧ n' = n) ∨ (v = 1 ∧ a' = a * 2 ∧ b' = b * 2 ∧ n' = n + 1)
theorem pad_facts {a b n v a' b' n' : Int} (h : Pad a b n v a' b' n') (hn : 0 < n) (ha : 0 ≤ a) (hb0 : 2 ^ (n.toNat - 1) ≤ b) (hb : b < 2 ^ n.toNat) (hab : a < 2 ^ n.toNat * b) :
    0 ≤ a' ∧ 2 ^ (n'.toNat - 1) ≤ b' ∧ b' < 2 ^ n'.toNat ∧ a' < 2 ^ n'.toNat * b' ∧ n ≤ n' ∧ n' ≤ n + 1 := by
  rcases h with ⟨_, rfl, rfl, rfl⟩ | ⟨_, ha', hb', rfl⟩
  · exact ⟨ha, hb0, hb, hab, by (first | lia | omega), by (first | lia | omega)⟩
  · have D := d21pad hn ha hb0 hb hab ha' hb'
    exact ⟨D.1, D.2.1, D.2.2.1, D.2.2.2, by (first | lia | omega), by (first | lia | omega)⟩
theorem pad_bits {a b n : Int} (hn : 0 < n) (ha : 0 ≤ a) (hb1 : 2 ^ (n.toNat - 1) ≤ b) (hb2 : b < 2 ^ n.toNat) (hab : a < 2 ^ n.toNat * b) :
    (Builtin.Int.intBits b : Int) ≤ n ∧ n ≤ Builtin.Int.intBits b ∧ 0 < b ∧ (Builtin.Int.intBits a : Int) ≤ n + n := by
  have hb0 : 0 < b := by have := two_pow_pos (n.toNat - 1); (first | lia | omega)
  refine ⟨by have := bits_le (a := b) (m := n.toNat) (by (first | lia | omega)) hb2; (first | lia | omega), by have := bits_ge hb1; (first | lia | omega), hb0, ?_⟩
  have h1 : (2 : Int) ^ n.toNat * b < 2 ^ n.toNat * 2 ^ n.toNat := Int.mul_lt_mul_of_pos_left hb2 (two_pow_pos _)
  rw [← pow_add'] at h1
  have := bits_le (a := a) (m := n.toNat + n.toNat) ha (by (first | lia | omega))
  (first | lia | omega)
local macro_rules | `(tactic| walk_at "binaryOp RShift int int") => `(tactic| refine Blk.out ?_)
local macro_rules | `(tactic| walk_at "inplaceOp RShift int int") => `(tactic| refine Blk.out ?_)
local macro_rules | `(tactic| walk_at "binaryOp LShift int int") => `(tactic| refine Blk.out ?_)
local macro_rules | `(tactic| walk_at "inplaceOp LShift int int") => `(tactic| refine Blk.out ?_)
local macro_rules | `(tactic| walk_at "binaryOp BitAnd int int") => `(tactic| refine Blk.out ?_)
local macro_rules | `(tactic| walk_at "binaryOp BitOr int int") => `(tactic| refine Blk.out ?_)
local macro_rules | `(tactic| walk_at "binaryOp Mult int int") => `(tactic| refine Blk.out ?_)
local macro_rules | `(tactic| walk_at "call ref") => `(tactic| refine Blk.out ?_)
/-- the answer is a tuple of quotient and rest -/
abbrev Ret2 (h₀ : Heap) (L : Addr) (m : Str → Option Value) (news : List (Addr × Obj)) (s : Shared) (Q : Value → Shared → Prop) (a b : Int) : Prop :=
  ∀ (q r : Int) (D : Addr) (t1 t2 : Tok) (c : Nat) (h' : Heap) (tk' : Nat), a = q * b + r → 0 ≤ r → r < b → Fr h₀ L h' m → News h₀ L h' ((D, ({ cls := .type "tuple", data := .seq #[.int q t1, .int r t2] c } : Obj)) :: news) → (∀ p ∈ news, p.1 < D) →
    Q (.ref D) { s with heap := h', toks := tk' }

abbrev CallC (w : World) (p : Program) (loose : List Str) (mean : ExcName → Option Value) (mg mb : Str → Option Value) (k e : Nat)
    (K : (dp un : Nat) → (gd : Option (List Code)) → (cn : Str) → (cs : Scope) → (ad : Addr) → (ccd : Value) → (cl : List (Str × Addr)) → (outer : List Env) → (h₀ : Heap) → (L : Addr) → (m : Str → Option Value) → (news : List (Addr × Obj)) → (s : Shared) → Prop) : Prop :=
  ∀ (dp un : Nat) (gd : Option (List Code)) (cn : Str) (cs : Scope) (ad : Addr) (ccd : Value) (cl : List (Str × Addr)) (outer : List Env) (A₀ : Around) (base h₀ : Heap) (L : Addr) (m : Str → Option Value) (news : List (Addr × Obj)) (s : Shared),
    Below A₀ base outer h₀ → Fr h₀ L s.heap m → (hd.heap_39 w.params).In h₀ → News h₀ L s.heap news → Top p loose mean mg mb h₀ → cs.kind = .function → dp + 2 * k + 2 + e < 900 → un + 20 * k + 20 + 3 * e < 9000 →
    K dp un gd cn cs ad ccd cl outer h₀ L m news s

def Div21 (prog : Program) (w : World) (p : Program) (loose : List Str) (mean : ExcName → Option Value) (mg mb : Str → Option Value) (k : Nat) : Prop :=
  ∀ (a b n : Int) (ta tb tn : Tok) (Q E : Value → Shared → Prop), 0 ≤ a → 0 < n → n ≤ 4000 * 2 ^ k → n ≤ 1000000 → 2 ^ (n.toNat - 1) ≤ b → b < 2 ^ n.toNat → a < 2 ^ n.toNat * b →
  CallC w p loose mean mg mb k 0 fun dp un gd cn cs ad ccd cl outer h₀ L m news s => Ret2 h₀ L m news s Q a b →
    wpAny (model prog w) (ktrTop dp un gd cn cs L ad ccd cl outer) (call (.ref 118) [.int a ta, .int b tb, .int n tn]) Q E s

def Div32 (prog : Program) (w : World) (p : Program) (loose : List Str) (mean : ExcName → Option Value) (mg mb : Str → Option Value) (k : Nat) : Prop :=
  ∀ (a12 a3 b b1 b2 n : Int) (t1 t2 t3 t4 t5 t6 : Tok) (Q E : Value → Shared → Prop), 0 ≤ a12 → a12 < b → 0 ≤ a3 → a3 < 2 ^ n.toNat → b = b1 * 2 ^ n.toNat + b2 → 0 ≤ b2 → b2 < 2 ^ n.toNat → 2 ^ (n.toNat - 1) ≤ b1 → b1 < 2 ^ n.toNat → 0 < n → n ≤ 4000 * 2 ^ k → n ≤ 1000000 →
  CallC w p loose mean mg mb k 1 fun dp un gd cn cs ad ccd cl outer h₀ L m news s => Ret2 h₀ L m news s Q (a12 * 2 ^ n.toNat + a3) b →
    wpAny (model prog w) (ktrTop dp un gd cn cs L ad ccd cl outer) (call (.ref 125) [.int a12 t1, .int a3 t2, .int b t3, .int b1 t4, .int b2 t5, .int n t6]) Q E s


section
variable {prog : Program} {w : World} {p : Program} {loose : List Str} {mean : ExcName → Option Value} {mg mb : Str → Option Value} {k : Nat}
  {dp un : Nat} {gd : Option (List Code)} {cn : Str} {cs : Scope} {ad : Addr} {ccd : Value} {cl : List (Str × Addr)} {outer : List Env} {A₀ : Around} {base h₀ : Heap} {L : Addr} {m : Str → Option Value} {news : List (Addr × Obj)} {s : Shared} {Q E : Value → Shared → Prop}
theorem use32 {a12 a3 b b1 b2 n : Int} {t1 t2 t3 t4 t5 t6 : Tok} (C : Div32 prog w p loose mean mg mb k)
    (hn : 0 < n ∧ n ≤ 4000 * 2 ^ k ∧ n ≤ 1000000) (ha : 0 ≤ a12 ∧ a12 < b ∧ 0 ≤ a3 ∧ a3 < 2 ^ n.toNat ∧ b = b1 * 2 ^ n.toNat + b2 ∧ 0 ≤ b2 ∧ b2 < 2 ^ n.toNat ∧ 2 ^ (n.toNat - 1) ≤ b1 ∧ b1 < 2 ^ n.toNat)
    (B : Below A₀ base outer h₀) (F : Fr h₀ L s.heap m) (X : (hd.heap_39 w.params).In h₀) (N : News h₀ L s.heap news) (T : Top p loose mean mg mb h₀) (hk : cs.kind = .function) (hd : dp + 2 * k + 3 < 900) (hu : un + 20 * k + 23 < 9000)
    (R : Ret2 h₀ L m news s Q (a12 * 2 ^ n.toNat + a3) b) :
    wpAny (model prog w) (ktrTop dp un gd cn cs L ad ccd cl outer) (call (.ref 125) [.int a12 t1, .int a3 t2, .int b t3, .int b1 t4, .int b2 t5, .int n t6]) Q E s := by
  obtain ⟨n1, n2, n3⟩ := hn
  obtain ⟨a1, a2, a3', a4, a5, a6, a7, a8, a9⟩ := ha
  exact C _ _ _ _ _ _ _ _ _ _ _ _ _ _ a1 a2 a3' a4 a5 a6 a7 a8 a9 n1 n2 n3 _ _ _ _ _ _ _ _ _ _ _ _ _ _ _ _ B F X N T hk hd hu R
theorem use21 {a b n : Int} {ta tb tn : Tok} (C : Div21 prog w p loose mean mg mb k)
    (hn : 0 < n ∧ n ≤ 4000 * 2 ^ k ∧ n ≤ 1000000) (ha : 0 ≤ a ∧ 2 ^ (n.toNat - 1) ≤ b ∧ b < 2 ^ n.toNat ∧ a < 2 ^ n.toNat * b)
    (B : Below A₀ base outer h₀) (F : Fr h₀ L s.heap m) (X : (hd.heap_39 w.params).In h₀) (N : News h₀ L s.heap news) (T : Top p loose mean mg mb h₀) (hk : cs.kind = .function) (hd : dp + 2 * k + 2 < 900) (hu : un + 20 * k + 20 < 9000)
    (R : Ret2 h₀ L m news s Q a b) :
    wpAny (model prog w) (ktrTop dp un gd cn cs L ad ccd cl outer) (call (.ref 118) [.int a ta, .int b tb, .int n tn]) Q E s := by
  obtain ⟨n1, n2, n3⟩ := hn
  obtain ⟨a1, a2, a3, a4⟩ := ha
  exact C _ _ _ _ _ _ _ _ a1 n1 n2 n3 a2 a3 a4 _ _ _ _ _ _ _ _ _ _ _ _ _ _ _ _ B F X N T hk hd hu R
end



theorem stDA1 {M A Q E s y0 y1 y2 y3 y4 y5 y6 y7 y8 y9 y10} (h : Blk (wpAny M A (execs (Stmt.If (Expr.Name y0 y1) (y2 :: y3 :: y4 :: y5) y6 y7 :: y8 :: y9) y10) Q E s)) : wpAny M A (execs (Stmt.If (Expr.Name y0 y1) (y2 :: y3 :: y4 :: y5) y6 y7 :: y8 :: y9) y10) Q E s := h
local macro_rules | `(tactic| walk_at "execs cons If") => `(tactic| with_reducible refine stDA1 ?_)
theorem div21_step {prog : Program} {w : World} {p : Program} {loose : List Str} {mean : ExcName → Option Value} {mg mb : Str → Option Value} (k : Nat) (C : ∀ j, k = j + 1 → Div32 prog w p loose mean mg mb j) : Div21 prog w p loose mean mg mb k := by
  intro a b n ta tb tn Q E ha hn hnk hn6 hb1 hb2 hab dp un gd cn cs ad ccd cl outer A₀ base h₀ L m news s B F X N T hk hd hu hret
  obtain ⟨hbits, hbits1, hb0, hbitsA⟩ := pad_bits hn ha hb1 hb2 hab
  refine wpAny_call ?_
  k_dflt ((refine' code_def ?k1_1 ?k2_1 ?k3_1 ?k4_1 ?k5_1 ?kA_1 ?kF_1 ?kK_1 ?k6_1 ?k7_1 ?k8_1 ?k9_1 ?kB_1 ?_ ?c2_1 ?c3_1 ?c4_1 ?c5_1; (case kA_1 => exact rfl); (case kF_1 => exact rfl); (case kK_1 => first | exact rfl | (first | with_reducible assumption | assumption)); (case k1_1 => k_asm); (case k2_1 => k_asm); (case k3_1 => k_asm); (case k4_1 => k_asm); (case k5_1 => k_asm); (case k6_1 => k_is); (case k7_1 => k_is); (case k8_1 => ktr_room); (case k9_1 => first | exact BindsTo.of_eq rfl | exact binds_K (by k_in) rfl (by k_is) rfl rfl rfl); (case c5_1 => decide); (case kB_1 => exact locs rfl); (case c2_1 => exact rfl); (case c3_1 => exact rfl); (case c4_1 => exact rfl); k_whole; intro g' L' h' FG' F' N' B' X' T'; (try dsimp only); (try k_lift B'); (try k_fold)))
  (repeat' (first | ((with_reducible refine Blk.into ?_); (first | (with_reducible ((show wpAny _ _ (binaryOp .RShift _ _) _ _ _); refine my_rshift (by first | (first | lia | omega) | (first | with_reducible assumption | assumption)) ?_; intro v hvx; (try simp only [show Int.toNat 1 = 1 from rfl, Int.pow_one] at hvx))) | (with_reducible ((show wpAny _ _ (inplaceOp .RShift _ _) _ _ _); refine my_irshift (by first | (first | lia | omega) | (first | with_reducible assumption | assumption)) ?_; intro v hvx; (try simp only [show Int.toNat 1 = 1 from rfl, Int.pow_one] at hvx))) | (with_reducible ((show wpAny _ _ (binaryOp .LShift (Value.int 1 _) _) _ _ _); refine lshift_int (by (first | lia | omega)) (by rw [bits_one]; (first | lia | omega)) ?_)) | (with_reducible ((show wpAny _ _ (binaryOp .LShift _ _) _ _ _); refine my_lshift (by first | (first | lia | omega) | (first | with_reducible assumption | assumption)) (by first | (first | lia | omega) | (first | with_reducible assumption | assumption)) ?_; intro v hvx; (try simp only [show Int.toNat 1 = 1 from rfl, Int.pow_one] at hvx))) | (with_reducible ((show wpAny _ _ (inplaceOp .LShift _ _) _ _ _); refine my_ilshift (by first | (first | lia | omega) | (first | with_reducible assumption | assumption)) (by first | (first | lia | omega) | (first | with_reducible assumption | assumption)) ?_; intro v hvx; (try simp only [show Int.toNat 1 = 1 from rfl, Int.pow_one] at hvx))) | (with_reducible ((show wpAny _ _ (binaryOp .BitAnd _ _) _ _ _); refine my_and ?_; intro v hvx; (try simp only [bitAnd_m1] at hvx))) | (with_reducible ((show wpAny _ _ (binaryOp .BitOr _ _) _ _ _); refine my_or ?_; intro v hvx)) | (with_reducible ((show wpAny _ _ (binaryOp .Mult _ _) _ _ _); refine my_mul (by first | (first | lia | omega) | (first | with_reducible assumption | assumption)) ?_)))) | (k_unfold; (try dsimp only)) | (k_end; wrow_close) | walk1 | (dsimp only; walk1) | (leave1; (try dsimp only))))
  · rename News _ _ _ _ => N9
    have hlt := fun p hp => Heap.lt_size (N9 p hp).1
    refine divmod_N (by k_asm) (by k_asm) (by (first | lia | omega)) ?_ (Or.inl (noPy (by (first | lia | omega))))
    (repeat' (first | ((with_reducible refine Blk.into ?_); (first | (with_reducible ((show wpAny _ _ (binaryOp .RShift _ _) _ _ _); refine my_rshift (by first | (first | lia | omega) | (first | with_reducible assumption | assumption)) ?_; intro v hvx; (try simp only [show Int.toNat 1 = 1 from rfl, Int.pow_one] at hvx))) | (with_reducible ((show wpAny _ _ (inplaceOp .RShift _ _) _ _ _); refine my_irshift (by first | (first | lia | omega) | (first | with_reducible assumption | assumption)) ?_; intro v hvx; (try simp only [show Int.toNat 1 = 1 from rfl, Int.pow_one] at hvx))) | (with_reducible ((show wpAny _ _ (binaryOp .LShift (Value.int 1 _) _) _ _ _); refine lshift_int (by (first | lia | omega)) (by rw [bits_one]; (first | lia | omega)) ?_)) | (with_reducible ((show wpAny _ _ (binaryOp .LShift _ _) _ _ _); refine my_lshift (by first | (first | lia | omega) | (first | with_reducible assumption | assumption)) (by first | (first | lia | omega) | (first | with_reducible assumption | assumption)) ?_; intro v hvx; (try simp only [show Int.toNat 1 = 1 from rfl, Int.pow_one] at hvx))) | (with_reducible ((show wpAny _ _ (inplaceOp .LShift _ _) _ _ _); refine my_ilshift (by first | (first | lia | omega) | (first | with_reducible assumption | assumption)) (by first | (first | lia | omega) | (first | with_reducible assumption | assumption)) ?_; intro v hvx; (try simp only [show Int.toNat 1 = 1 from rfl, Int.pow_one] at hvx))) | (with_reducible ((show wpAny _ _ (binaryOp .BitAnd _ _) _ _ _); refine my_and ?_; intro v hvx; (try simp only [bitAnd_m1] at hvx))) | (with_reducible ((show wpAny _ _ (binaryOp .BitOr _ _) _ _ _); refine my_or ?_; intro v hvx)) | (with_reducible ((show wpAny _ _ (binaryOp .Mult _ _) _ _ _); refine my_mul (by first | (first | lia | omega) | (first | with_reducible assumption | assumption)) ?_)))) | (k_unfold; (try dsimp only)) | (k_end; wrow_close) | walk1 | (dsimp only; walk1) | (leave1; (try dsimp only))))
    have hdm := dm_facts (a := a) hb0
    exact hret _ _ _ _ _ _ _ _ hdm.1 hdm.2.1 hdm.2.2 (by with_reducible assumption) (by with_reducible assumption) hlt
  · obtain ⟨j, rfl⟩ : ∃ j, k = j + 1 := by
      cases k with
      | zero => (first | lia | omega)
      | succ j => exact ⟨j, rfl⟩
    have CC := C j rfl
    have hpw : (4000 : Int) * 2 ^ (j + 1) = 2 * (4000 * 2 ^ j) := by rw [pow_succ']; (first | lia | omega)
    refine Blk.into ?_
    rename _ = n % 2 => hpad
    subst hpad
    let Jc : Heap → Prop := fun h' => ∀ G : Prop, (∀ (m' : Str → Option Value) (a' b' n' : Int) (ta' tb' tn' tp' : Tok), Fr g' L' h' m' → News g' L' h' news → NmAre m' [("a", .int a' ta'), ("b", .int b' tb'), ("n", .int n' tn'), ("pad", .int (n % 2) tp')] → Pad a b n (n % 2) a' b' n' → n' % 2 = 0 → G) → G
    with_reducible refine Jn.ckpt 1 Jc ?_ ?_
    · dsimp only [List.take]
      k_fold
      (repeat' (first | ((with_reducible refine Blk.into ?_); (first | (with_reducible ((show wpAny _ _ (binaryOp .RShift _ _) _ _ _); refine my_rshift (by first | (first | lia | omega) | (first | with_reducible assumption | assumption)) ?_; intro v hvx; (try simp only [show Int.toNat 1 = 1 from rfl, Int.pow_one] at hvx))) | (with_reducible ((show wpAny _ _ (inplaceOp .RShift _ _) _ _ _); refine my_irshift (by first | (first | lia | omega) | (first | with_reducible assumption | assumption)) ?_; intro v hvx; (try simp only [show Int.toNat 1 = 1 from rfl, Int.pow_one] at hvx))) | (with_reducible ((show wpAny _ _ (binaryOp .LShift (Value.int 1 _) _) _ _ _); refine lshift_int (by (first | lia | omega)) (by rw [bits_one]; (first | lia | omega)) ?_)) | (with_reducible ((show wpAny _ _ (binaryOp .LShift _ _) _ _ _); refine my_lshift (by first | (first | lia | omega) | (first | with_reducible assumption | assumption)) (by first | (first | lia | omega) | (first | with_reducible assumption | assumption)) ?_; intro v hvx; (try simp only [show Int.toNat 1 = 1 from rfl, Int.pow_one] at hvx))) | (with_reducible ((show wpAny _ _ (inplaceOp .LShift _ _) _ _ _); refine my_ilshift (by first | (first | lia | omega) | (first | with_reducible assumption | assumption)) (by first | (first | lia | omega) | (first | with_reducible assumption | assumption)) ?_; intro v hvx; (try simp only [show Int.toNat 1 = 1 from rfl, Int.pow_one] at hvx))) | (with_reducible ((show wpAny _ _ (binaryOp .BitAnd _ _) _ _ _); refine my_and ?_; intro v hvx; (try simp only [bitAnd_m1] at hvx))) | (with_reducible ((show wpAny _ _ (binaryOp .BitOr _ _) _ _ _); refine my_or ?_; intro v hvx)) | (with_reducible ((show wpAny _ _ (binaryOp .Mult _ _) _ _ _); refine my_mul (by first | (first | lia | omega) | (first | with_reducible assumption | assumption)) ?_)))) | (k_unfold; (try dsimp only)) | (k_end; wrow_close) | walk1 | (dsimp only; walk1) | (leave1; (try dsimp only))))
      · (refine ⟨_, _, rfl, ?_⟩; intro G k; exact k _ _ _ _ _ _ _ _ (by k_asm) (by k_asm) (by repeat (first | exact nm_nil | refine nm_cons (by with_unfolding_all rfl) ?_)) (.inr ⟨by (first | lia | omega), (by with_reducible assumption), (by with_reducible assumption), rfl⟩) (by (first | lia | omega)))
      · (refine ⟨_, _, rfl, ?_⟩; intro G k; exact k _ _ _ _ _ _ _ _ (by k_asm) (by k_asm) (by repeat (first | exact nm_nil | refine nm_cons (by with_unfolding_all rfl) ?_)) (.inl ⟨by (first | lia | omega), rfl, rfl, rfl⟩) (by (first | lia | omega)))
    intro h2 tk2 hJ
    with_reducible refine hJ _ ?_
    clear hJ Jc
    intro m2 a' b' n' ta' tb' tn' tp' F2 N2 M2 hp hne
    with_reducible refine fr_fold F2 M2 ?_
    clear F2 M2
    intro mm F2
    obtain ⟨p1, p2, p3, p4, p5, p6⟩ := pad_facts hp hn ha hb1 hb2 hab
    obtain ⟨q1', q2', q3', q4'⟩ := pad_bits (by (first | lia | omega)) p1 p2 p3 p4
    dsimp only [List.drop]
    (repeat' (first | ((with_reducible refine Blk.into ?_); (first | (with_reducible ((show wpAny _ _ (binaryOp .RShift _ _) _ _ _); refine my_rshift (by first | (first | lia | omega) | (first | with_reducible assumption | assumption)) ?_; intro v hvx; (try simp only [show Int.toNat 1 = 1 from rfl, Int.pow_one] at hvx))) | (with_reducible ((show wpAny _ _ (inplaceOp .RShift _ _) _ _ _); refine my_irshift (by first | (first | lia | omega) | (first | with_reducible assumption | assumption)) ?_; intro v hvx; (try simp only [show Int.toNat 1 = 1 from rfl, Int.pow_one] at hvx))) | (with_reducible ((show wpAny _ _ (binaryOp .LShift (Value.int 1 _) _) _ _ _); refine lshift_int (by (first | lia | omega)) (by rw [bits_one]; (first | lia | omega)) ?_)) | (with_reducible ((show wpAny _ _ (binaryOp .LShift _ _) _ _ _); refine my_lshift (by first | (first | lia | omega) | (first | with_reducible assumption | assumption)) (by first | (first | lia | omega) | (first | with_reducible assumption | assumption)) ?_; intro v hvx; (try simp only [show Int.toNat 1 = 1 from rfl, Int.pow_one] at hvx))) | (with_reducible ((show wpAny _ _ (inplaceOp .LShift _ _) _ _ _); refine my_ilshift (by first | (first | lia | omega) | (first | with_reducible assumption | assumption)) (by first | (first | lia | omega) | (first | with_reducible assumption | assumption)) ?_; intro v hvx; (try simp only [show Int.toNat 1 = 1 from rfl, Int.pow_one] at hvx))) | (with_reducible ((show wpAny _ _ (binaryOp .BitAnd _ _) _ _ _); refine my_and ?_; intro v hvx; (try simp only [bitAnd_m1] at hvx))) | (with_reducible ((show wpAny _ _ (binaryOp .BitOr _ _) _ _ _); refine my_or ?_; intro v hvx)) | (with_reducible ((show wpAny _ _ (binaryOp .Mult _ _) _ _ _); refine my_mul (by first | (first | lia | omega) | (first | with_reducible assumption | assumption)) ?_)))) | (k_unfold; (try dsimp only)) | (k_end; wrow_close) | walk1 | (dsimp only; walk1) | (leave1; (try dsimp only))))
    rename _ = n' / 2 => hh
    rename _ = _ / 2 ^ n'.toNat => hv12
    rename _ = Builtin.bitAnd _ _ => hv3
    have hh2 := half_of hh hne
    have D := d21a hh2 (by (first | lia | omega)) p1 p2 p3 p4 rfl hv12 (by with_reducible assumption) hv3 (by with_reducible assumption) (by with_reducible assumption)
    refine Blk.into ?_
    k_dflt (refine use32 (by (first | with_reducible assumption | assumption)) (by (first | lia | omega)) ⟨D.1, D.2.1, D.2.2.1, D.2.2.2.1, D.2.2.2.2.1, D.2.2.2.2.2.1, D.2.2.2.2.2.2.1, D.2.2.2.2.2.2.2.1, D.2.2.2.2.2.2.2.2.1⟩ (by k_asm) (by k_asm) (by k_asm) (by k_asm) (by k_asm) (by first | exact rfl | (first | with_reducible assumption | assumption)) (by (simp only [depth_deeper, ktrTop]; (first | lia | omega))) (by (simp only [units_deeper, ktrTop]; (first | lia | omega))) ?_)
    intro q1 r1 D1 t1 t2 c1 h1 tk1 e1 r10 r11 F1 N1 l1
    have Z1 := d21z D.1 D.2.1 D.2.2.1 D.2.2.2.1 e1 r10 r11
    rw [D.2.2.2.2.2.2.2.2.2] at e1
    (repeat' (first | ((with_reducible refine Blk.into ?_); (first | (with_reducible ((show wpAny _ _ (binaryOp .RShift _ _) _ _ _); refine my_rshift (by first | (first | lia | omega) | (first | with_reducible assumption | assumption)) ?_; intro v hvx; (try simp only [show Int.toNat 1 = 1 from rfl, Int.pow_one] at hvx))) | (with_reducible ((show wpAny _ _ (inplaceOp .RShift _ _) _ _ _); refine my_irshift (by first | (first | lia | omega) | (first | with_reducible assumption | assumption)) ?_; intro v hvx; (try simp only [show Int.toNat 1 = 1 from rfl, Int.pow_one] at hvx))) | (with_reducible ((show wpAny _ _ (binaryOp .LShift (Value.int 1 _) _) _ _ _); refine lshift_int (by (first | lia | omega)) (by rw [bits_one]; (first | lia | omega)) ?_)) | (with_reducible ((show wpAny _ _ (binaryOp .LShift _ _) _ _ _); refine my_lshift (by first | (first | lia | omega) | (first | with_reducible assumption | assumption)) (by first | (first | lia | omega) | (first | with_reducible assumption | assumption)) ?_; intro v hvx; (try simp only [show Int.toNat 1 = 1 from rfl, Int.pow_one] at hvx))) | (with_reducible ((show wpAny _ _ (inplaceOp .LShift _ _) _ _ _); refine my_ilshift (by first | (first | lia | omega) | (first | with_reducible assumption | assumption)) (by first | (first | lia | omega) | (first | with_reducible assumption | assumption)) ?_; intro v hvx; (try simp only [show Int.toNat 1 = 1 from rfl, Int.pow_one] at hvx))) | (with_reducible ((show wpAny _ _ (binaryOp .BitAnd _ _) _ _ _); refine my_and ?_; intro v hvx; (try simp only [bitAnd_m1] at hvx))) | (with_reducible ((show wpAny _ _ (binaryOp .BitOr _ _) _ _ _); refine my_or ?_; intro v hvx)) | (with_reducible ((show wpAny _ _ (binaryOp .Mult _ _) _ _ _); refine my_mul (by first | (first | lia | omega) | (first | with_reducible assumption | assumption)) ?_)))) | (k_unfold; (try dsimp only)) | (k_end; wrow_close) | walk1 | (dsimp only; walk1) | (leave1; (try dsimp only))))
    rename _ = Builtin.bitAnd _ _ => hv3
    have D3 := d21a3 p1 hv3
    refine Blk.into ?_
    k_dflt (refine use32 (by (first | with_reducible assumption | assumption)) (by (first | lia | omega)) ⟨r10, r11, D3.1, D3.2, D.2.2.2.2.1, D.2.2.2.2.2.1, D.2.2.2.2.2.2.1, D.2.2.2.2.2.2.2.1, D.2.2.2.2.2.2.2.2.1⟩ (by k_asm) (by k_asm) (by k_asm) (by k_asm) (by k_asm) (by first | exact rfl | (first | with_reducible assumption | assumption)) (by (simp only [depth_deeper, ktrTop]; (first | lia | omega))) (by (simp only [units_deeper, ktrTop]; (first | lia | omega))) ?_)
    intro q2 r2 D2 t3 t4 c2 h2 tk2 e2 r20 r21 F2 N2 l2
    have Z3 := bits_le Z1.1 Z1.2
    (repeat' (first | ((with_reducible refine Blk.into ?_); (first | (with_reducible ((show wpAny _ _ (binaryOp .RShift _ _) _ _ _); refine my_rshift (by first | (first | lia | omega) | (first | with_reducible assumption | assumption)) ?_; intro v hvx; (try simp only [show Int.toNat 1 = 1 from rfl, Int.pow_one] at hvx))) | (with_reducible ((show wpAny _ _ (inplaceOp .RShift _ _) _ _ _); refine my_irshift (by first | (first | lia | omega) | (first | with_reducible assumption | assumption)) ?_; intro v hvx; (try simp only [show Int.toNat 1 = 1 from rfl, Int.pow_one] at hvx))) | (with_reducible ((show wpAny _ _ (binaryOp .LShift (Value.int 1 _) _) _ _ _); refine lshift_int (by (first | lia | omega)) (by rw [bits_one]; (first | lia | omega)) ?_)) | (with_reducible ((show wpAny _ _ (binaryOp .LShift _ _) _ _ _); refine my_lshift (by first | (first | lia | omega) | (first | with_reducible assumption | assumption)) (by first | (first | lia | omega) | (first | with_reducible assumption | assumption)) ?_; intro v hvx; (try simp only [show Int.toNat 1 = 1 from rfl, Int.pow_one] at hvx))) | (with_reducible ((show wpAny _ _ (inplaceOp .LShift _ _) _ _ _); refine my_ilshift (by first | (first | lia | omega) | (first | with_reducible assumption | assumption)) (by first | (first | lia | omega) | (first | with_reducible assumption | assumption)) ?_; intro v hvx; (try simp only [show Int.toNat 1 = 1 from rfl, Int.pow_one] at hvx))) | (with_reducible ((show wpAny _ _ (binaryOp .BitAnd _ _) _ _ _); refine my_and ?_; intro v hvx; (try simp only [bitAnd_m1] at hvx))) | (with_reducible ((show wpAny _ _ (binaryOp .BitOr _ _) _ _ _); refine my_or ?_; intro v hvx)) | (with_reducible ((show wpAny _ _ (binaryOp .Mult _ _) _ _ _); refine my_mul (by first | (first | lia | omega) | (first | with_reducible assumption | assumption)) ?_)))) | (k_unfold; (try dsimp only)) | (k_end; wrow_close) | walk1 | (dsimp only; walk1) | (leave1; (try dsimp only))))
    · rcases hp with ⟨h0, _⟩ | ⟨_, ha', hb', _⟩
      · exfalso; (first | lia | omega)
      · have W := d21b (by (first | lia | omega)) p1 (by (first | lia | omega)) rfl e1 r10 r11 hv3 e2 r20 r21 (by with_reducible assumption) (by with_reducible assumption)
        have U := d21unpad ha' hb' W r20 r21 (by with_reducible assumption)
        exact hret _ _ _ _ _ _ _ _ U.1 U.2.1 U.2.2 (by with_reducible assumption) (by first | with_reducible assumption | ((rename News _ _ _ _ => dN); first | exact nd1 dN | exact nd1 (nd1 dN) | exact nd1 (nd1 (nd1 dN)) | exact nd1 (nd1 (nd1 (nd1 dN))))) (by ((rename _ < _ ∧ _ => dL); exact allLt_mem (by first | exact dL | exact dL.2 | exact dL.2.2 | exact dL.2.2.2 | exact dL.2.2.2.2 | exact dL.2.2.2.2.2)))
    · rcases hp with ⟨_, ha', hb', _⟩ | ⟨h0, _⟩
      · have W := d21b (by (first | lia | omega)) p1 (by (first | lia | omega)) rfl e1 r10 r11 hv3 e2 r20 r21 (by with_reducible assumption) (by with_reducible assumption)
        rw [ha', hb'] at W
        rw [hb'] at r21
        exact hret _ _ _ _ _ _ _ _ W r20 r21 (by with_reducible assumption) (by first | with_reducible assumption | ((rename News _ _ _ _ => dN); first | exact nd1 dN | exact nd1 (nd1 dN) | exact nd1 (nd1 (nd1 dN)) | exact nd1 (nd1 (nd1 (nd1 dN))))) (by ((rename _ < _ ∧ _ => dL); exact allLt_mem (by first | exact dL | exact dL.2 | exact dL.2.2 | exact dL.2.2.2 | exact dL.2.2.2.2 | exact dL.2.2.2.2.2)))
      · exfalso; (first | lia | omega)
end Mine02
end
namespace Mine02
theorem rest6 : True ∧ True := by w_top off; first | (walk1; all_goals trivial) | exact ⟨trivial, trivial⟩
end Mine02

section
namespace Mine02
open DivM

local macro_rules | `(tactic| walk_at "binaryOp RShift int int") => `(tactic| refine Blk.out ?_)
local macro_rules | `(tactic| walk_at "inplaceOp RShift int int") => `(tactic| refine Blk.out ?_)
local macro_rules | `(tactic| walk_at "binaryOp LShift int int") => `(tactic| refine Blk.out ?_)
local macro_rules | `(tactic| walk_at "inplaceOp LShift int int") => `(tactic| refine Blk.out ?_)
local macro_rules | `(tactic| walk_at "binaryOp BitAnd int int") => `(tactic| refine Blk.out ?_)
local macro_rules | `(tactic| walk_at "binaryOp BitOr int int") => `(tactic| refine Blk.out ?_)
local macro_rules | `(tactic| walk_at "binaryOp Mult int int") => `(tactic| refine Blk.out ?_)
local macro_rules | `(tactic| walk_at "call ref") => `(tactic| refine Blk.out ?_)
local macro_rules | `(tactic| walk_at "exec While Compare cons nil") => `(tactic| refine Blk.out ?_)




theorem div32_step {prog : Program} {w : World} {p : Program} {loose : List Str} {mean : ExcName → Option Value} {mg mb : Str → Option Value} (k : Nat) (C : Div21 prog w p loose mean mg mb k) : Div32 prog w p loose mean mg mb k := by
  intro a12 a3 b b1 b2 n t1 t2 t3 t4 t5 t6 Q E ha0 ha1 ha2 ha3 hb hb2 hb2' hb1 hb1' hn hnk hn6 dp un gd cn cs ad ccd cl outer A₀ base h₀ L m news s B F X N T hk hd hu hret
  have hp := two_pow_pos n.toNat
  have z1 : (Builtin.Int.intBits b1 : Int) ≤ n := by have := bits_le (a := b1) (m := n.toNat) (by have := two_pow_pos (n.toNat - 1); (first | lia | omega)) hb1'; (first | lia | omega)
  have hb0 : 0 < b1 := by have := two_pow_pos (n.toNat - 1); (first | lia | omega)
  have zb2 : (Builtin.Int.intBits b2 : Int) ≤ n := by have := bits_le (a := b2) (m := n.toNat) hb2 hb2'; (first | lia | omega)
  have zq : (Builtin.Int.intBits (1 * 2 ^ n.toNat - 1) : Int) ≤ n := by have := bits_le (a := 1 * 2 ^ n.toNat - 1) (m := n.toNat) (by (first | lia | omega)) (by (first | lia | omega)); (first | lia | omega)
  refine wpAny_call ?_
  k_dflt ktr_enter
  (repeat' (first | ((with_reducible refine Blk.into ?_); (first | (with_reducible ((show wpAny _ _ (binaryOp .RShift _ _) _ _ _); refine my_rshift (by first | exact d3sz (by with_reducible assumption) (by with_reducible assumption) (by with_reducible assumption) (by with_reducible assumption) (by with_reducible assumption) (by with_reducible assumption) (by with_reducible assumption) | (first | lia | omega) | assumption) ?_; intro v hvx; (try simp only [show Int.toNat 1 = 1 from rfl, Int.pow_one] at hvx))) | (with_reducible ((show wpAny _ _ (inplaceOp .RShift _ _) _ _ _); refine my_irshift (by first | exact d3sz (by with_reducible assumption) (by with_reducible assumption) (by with_reducible assumption) (by with_reducible assumption) (by with_reducible assumption) (by with_reducible assumption) (by with_reducible assumption) | (first | lia | omega) | assumption) ?_; intro v hvx; (try simp only [show Int.toNat 1 = 1 from rfl, Int.pow_one] at hvx))) | (with_reducible ((show wpAny _ _ (binaryOp .LShift (Value.int 1 _) _) _ _ _); refine lshift_int (by (first | lia | omega)) (by rw [bits_one]; (first | lia | omega)) ?_)) | (with_reducible ((show wpAny _ _ (binaryOp .LShift _ _) _ _ _); refine my_lshift (by first | exact d3sz (by with_reducible assumption) (by with_reducible assumption) (by with_reducible assumption) (by with_reducible assumption) (by with_reducible assumption) (by with_reducible assumption) (by with_reducible assumption) | (first | lia | omega) | assumption) (by first | exact d3sz (by with_reducible assumption) (by with_reducible assumption) (by with_reducible assumption) (by with_reducible assumption) (by with_reducible assumption) (by with_reducible assumption) (by with_reducible assumption) | (first | lia | omega) | assumption) ?_; intro v hvx; (try simp only [show Int.toNat 1 = 1 from rfl, Int.pow_one] at hvx))) | (with_reducible ((show wpAny _ _ (inplaceOp .LShift _ _) _ _ _); refine my_ilshift (by first | exact d3sz (by with_reducible assumption) (by with_reducible assumption) (by with_reducible assumption) (by with_reducible assumption) (by with_reducible assumption) (by with_reducible assumption) (by with_reducible assumption) | (first | lia | omega) | assumption) (by first | exact d3sz (by with_reducible assumption) (by with_reducible assumption) (by with_reducible assumption) (by with_reducible assumption) (by with_reducible assumption) (by with_reducible assumption) (by with_reducible assumption) | (first | lia | omega) | assumption) ?_; intro v hvx; (try simp only [show Int.toNat 1 = 1 from rfl, Int.pow_one] at hvx))) | (with_reducible ((show wpAny _ _ (binaryOp .BitAnd _ _) _ _ _); refine my_and ?_; intro v hvx; (try simp only [bitAnd_m1] at hvx))) | (with_reducible ((show wpAny _ _ (binaryOp .BitOr _ _) _ _ _); refine my_or ?_; intro v hvx)) | (with_reducible ((show wpAny _ _ (binaryOp .Mult _ _) _ _ _); refine my_mul (by first | exact d3sz (by with_reducible assumption) (by with_reducible assumption) (by with_reducible assumption) (by with_reducible assumption) (by with_reducible assumption) (by with_reducible assumption) (by with_reducible assumption) | (first | lia | omega) | assumption) ?_)))) | (k_unfold; (try dsimp only)) | (k_end; wrow_close) | walk1 | (dsimp only; walk1) | (leave1; (try dsimp only))))
  · rename _ = a12 / 2 ^ n.toNat => hv1
    rename _ = b1 * 2 ^ n.toNat => hv
    have e1 := d3e1 (a12 := a12) hv
    have r1 := d3r0 hb0 hv1 (by with_reducible assumption) hv
    have hA := d3in ha2 ha3 hb e1 r1 (by with_reducible assumption) (by with_reducible assumption)
    have hlt := d3lt1 ha3 ha1 hA
    refine Blk.into ?_
    rename Fr _ _ _ _ => FW
    rename News _ _ _ _ => NW
    with_unfolding_all refine' my_while (fun (i : Nat) m₁ => ∃ (q r : Int) (tq tr : Tok), m₁ "q" = some (.int q tq) ∧ m₁ "r" = some (.int r tr) ∧ m₁ "b" = some (.int b t3) ∧ a12 * 2 ^ n.toNat + a3 = q * b + r ∧ r < b ∧ i = (-r).toNat) ?kF ?kN ?hJ ?hE ?_
    case kF => exact FW
    case kN => exact NW
    case hE => first | passes_own | with_unfolding_all passes_own
    case hJ => exact ⟨_, _, _, _, by with_unfolding_all rfl, by with_unfolding_all rfl, by with_unfolding_all rfl, hA, hlt, rfl⟩
    clear FW NW
    rintro i m₁ hW tkW F₁ N₁ ⟨q, r, tq, tr, hq, hr, hbm, hAe, hrb, rfl⟩
    have F₂ := fr_named [(("q" : Str), Value.int q tq), ("r", .int r tr), ("b", .int b t3)] (by intro p hp; simp only [List.mem_cons, List.not_mem_nil, or_false] at hp; rcases hp with rfl | rfl | rfl <;> assumption) F₁
    clear F₁
    (repeat' (first | ((with_reducible refine Blk.into ?_); (first | (with_reducible ((show wpAny _ _ (binaryOp .RShift _ _) _ _ _); refine my_rshift (by first | exact d3sz (by with_reducible assumption) (by with_reducible assumption) (by with_reducible assumption) (by with_reducible assumption) (by with_reducible assumption) (by with_reducible assumption) (by with_reducible assumption) | (first | lia | omega) | assumption) ?_; intro v hvx; (try simp only [show Int.toNat 1 = 1 from rfl, Int.pow_one] at hvx))) | (with_reducible ((show wpAny _ _ (inplaceOp .RShift _ _) _ _ _); refine my_irshift (by first | exact d3sz (by with_reducible assumption) (by with_reducible assumption) (by with_reducible assumption) (by with_reducible assumption) (by with_reducible assumption) (by with_reducible assumption) (by with_reducible assumption) | (first | lia | omega) | assumption) ?_; intro v hvx; (try simp only [show Int.toNat 1 = 1 from rfl, Int.pow_one] at hvx))) | (with_reducible ((show wpAny _ _ (binaryOp .LShift (Value.int 1 _) _) _ _ _); refine lshift_int (by (first | lia | omega)) (by rw [bits_one]; (first | lia | omega)) ?_)) | (with_reducible ((show wpAny _ _ (binaryOp .LShift _ _) _ _ _); refine my_lshift (by first | exact d3sz (by with_reducible assumption) (by with_reducible assumption) (by with_reducible assumption) (by with_reducible assumption) (by with_reducible assumption) (by with_reducible assumption) (by with_reducible assumption) | (first | lia | omega) | assumption) (by first | exact d3sz (by with_reducible assumption) (by with_reducible assumption) (by with_reducible assumption) (by with_reducible assumption) (by with_reducible assumption) (by with_reducible assumption) (by with_reducible assumption) | (first | lia | omega) | assumption) ?_; intro v hvx; (try simp only [show Int.toNat 1 = 1 from rfl, Int.pow_one] at hvx))) | (with_reducible ((show wpAny _ _ (inplaceOp .LShift _ _) _ _ _); refine my_ilshift (by first | exact d3sz (by with_reducible assumption) (by with_reducible assumption) (by with_reducible assumption) (by with_reducible assumption) (by with_reducible assumption) (by with_reducible assumption) (by with_reducible assumption) | (first | lia | omega) | assumption) (by first | exact d3sz (by with_reducible assumption) (by with_reducible assumption) (by with_reducible assumption) (by with_reducible assumption) (by with_reducible assumption) (by with_reducible assumption) (by with_reducible assumption) | (first | lia | omega) | assumption) ?_; intro v hvx; (try simp only [show Int.toNat 1 = 1 from rfl, Int.pow_one] at hvx))) | (with_reducible ((show wpAny _ _ (binaryOp .BitAnd _ _) _ _ _); refine my_and ?_; intro v hvx; (try simp only [bitAnd_m1] at hvx))) | (with_reducible ((show wpAny _ _ (binaryOp .BitOr _ _) _ _ _); refine my_or ?_; intro v hvx)) | (with_reducible ((show wpAny _ _ (binaryOp .Mult _ _) _ _ _); refine my_mul (by first | exact d3sz (by with_reducible assumption) (by with_reducible assumption) (by with_reducible assumption) (by with_reducible assumption) (by with_reducible assumption) (by with_reducible assumption) (by with_reducible assumption) | (first | lia | omega) | assumption) ?_)))) | (k_unfold; (try dsimp only)) | (k_end; wrow_close) | walk1 | (dsimp only; walk1) | (leave1; (try dsimp only))))
    · refine ⟨_, _, _, _, _, rfl, by with_reducible assumption, by with_reducible assumption, ?_, rfl, q - 1, r + b, _, _, by with_unfolding_all rfl, by with_unfolding_all rfl, by with_unfolding_all rfl, d3turn hAe, by (first | lia | omega), rfl⟩
      (first | lia | omega)
    · exact hret _ _ _ _ _ _ _ _ hAe (by (first | lia | omega)) hrb (by with_reducible assumption) (by first | with_reducible assumption | ((rename News _ _ _ _ => dN); first | exact nd1 dN | exact nd1 (nd1 dN) | exact nd1 (nd1 (nd1 dN)) | exact nd1 (nd1 (nd1 (nd1 dN))))) (by ((rename _ < _ ∧ _ => dL); exact allLt_mem (by first | exact dL | exact dL.2 | exact dL.2.2 | exact dL.2.2.2 | exact dL.2.2.2.2 | exact dL.2.2.2.2.2)))
  · have zr := d3a hb hb2 hb2' ha0 ha1 _ (by with_reducible assumption)
    refine Blk.into ?_
    k_dflt (refine use21 (by (first | with_reducible assumption | assumption)) (by (first | lia | omega)) ⟨ha0, hb1, hb1', zr.2 (by with_reducible assumption)⟩ (by k_asm) (by k_asm) (by k_asm) (by k_asm) (by k_asm) (by first | exact rfl | (first | with_reducible assumption | assumption)) (by (simp only [depth_deeper, ktrTop]; (first | lia | omega))) (by (simp only [units_deeper, ktrTop]; (first | lia | omega))) ?_)
    intro q1 r1 D1 t1 t2 c1 h1 tk1 e1 r10 r11 F1 N1 l1
    have Z1 := d21c (h := 0) (by (first | lia | omega)) e1 r10 r11 ha0 (zr.2 (by with_reducible assumption))
    have zq1 := bits_le Z1.1 Z1.2
    have zr1 := bits_le (a := r1) (m := n.toNat) r10 (by (first | lia | omega))
    (repeat' (first | ((with_reducible refine Blk.into ?_); (first | (with_reducible ((show wpAny _ _ (binaryOp .RShift _ _) _ _ _); refine my_rshift (by first | exact d3sz (by with_reducible assumption) (by with_reducible assumption) (by with_reducible assumption) (by with_reducible assumption) (by with_reducible assumption) (by with_reducible assumption) (by with_reducible assumption) | (first | lia | omega) | assumption) ?_; intro v hvx; (try simp only [show Int.toNat 1 = 1 from rfl, Int.pow_one] at hvx))) | (with_reducible ((show wpAny _ _ (inplaceOp .RShift _ _) _ _ _); refine my_irshift (by first | exact d3sz (by with_reducible assumption) (by with_reducible assumption) (by with_reducible assumption) (by with_reducible assumption) (by with_reducible assumption) (by with_reducible assumption) (by with_reducible assumption) | (first | lia | omega) | assumption) ?_; intro v hvx; (try simp only [show Int.toNat 1 = 1 from rfl, Int.pow_one] at hvx))) | (with_reducible ((show wpAny _ _ (binaryOp .LShift (Value.int 1 _) _) _ _ _); refine lshift_int (by (first | lia | omega)) (by rw [bits_one]; (first | lia | omega)) ?_)) | (with_reducible ((show wpAny _ _ (binaryOp .LShift _ _) _ _ _); refine my_lshift (by first | exact d3sz (by with_reducible assumption) (by with_reducible assumption) (by with_reducible assumption) (by with_reducible assumption) (by with_reducible assumption) (by with_reducible assumption) (by with_reducible assumption) | (first | lia | omega) | assumption) (by first | exact d3sz (by with_reducible assumption) (by with_reducible assumption) (by with_reducible assumption) (by with_reducible assumption) (by with_reducible assumption) (by with_reducible assumption) (by with_reducible assumption) | (first | lia | omega) | assumption) ?_; intro v hvx; (try simp only [show Int.toNat 1 = 1 from rfl, Int.pow_one] at hvx))) | (with_reducible ((show wpAny _ _ (inplaceOp .LShift _ _) _ _ _); refine my_ilshift (by first | exact d3sz (by with_reducible assumption) (by with_reducible assumption) (by with_reducible assumption) (by with_reducible assumption) (by with_reducible assumption) (by with_reducible assumption) (by with_reducible assumption) | (first | lia | omega) | assumption) (by first | exact d3sz (by with_reducible assumption) (by with_reducible assumption) (by with_reducible assumption) (by with_reducible assumption) (by with_reducible assumption) (by with_reducible assumption) (by with_reducible assumption) | (first | lia | omega) | assumption) ?_; intro v hvx; (try simp only [show Int.toNat 1 = 1 from rfl, Int.pow_one] at hvx))) | (with_reducible ((show wpAny _ _ (binaryOp .BitAnd _ _) _ _ _); refine my_and ?_; intro v hvx; (try simp only [bitAnd_m1] at hvx))) | (with_reducible ((show wpAny _ _ (binaryOp .BitOr _ _) _ _ _); refine my_or ?_; intro v hvx)) | (with_reducible ((show wpAny _ _ (binaryOp .Mult _ _) _ _ _); refine my_mul (by first | exact d3sz (by with_reducible assumption) (by with_reducible assumption) (by with_reducible assumption) (by with_reducible assumption) (by with_reducible assumption) (by with_reducible assumption) (by with_reducible assumption) | (first | lia | omega) | assumption) ?_)))) | (k_unfold; (try dsimp only)) | (k_end; wrow_close) | walk1 | (dsimp only; walk1) | (leave1; (try dsimp only))))
    have hA := d3in ha2 ha3 hb e1 r10 (by with_reducible assumption) (by with_reducible assumption)
    have hlt := d3lt2 ha2 ha3 hb hb2 Z1.1 r10 r11 (by with_reducible assumption) (by with_reducible assumption)
    refine Blk.into ?_
    rename Fr _ _ _ _ => FW
    rename News _ _ _ _ => NW
    with_unfolding_all refine' my_while (fun (i : Nat) m₁ => ∃ (q r : Int) (tq tr : Tok), m₁ "q" = some (.int q tq) ∧ m₁ "r" = some (.int r tr) ∧ m₁ "b" = some (.int b t3) ∧ a12 * 2 ^ n.toNat + a3 = q * b + r ∧ r < b ∧ i = (-r).toNat) ?kF ?kN ?hJ ?hE ?_
    case kF => exact FW
    case kN => exact NW
    case hE => first | passes_own | with_unfolding_all passes_own
    case hJ => exact ⟨_, _, _, _, by with_unfolding_all rfl, by with_unfolding_all rfl, by with_unfolding_all rfl, hA, hlt, rfl⟩
    clear FW NW
    rintro i m₁ hW tkW F₁ N₁ ⟨q, r, tq, tr, hq, hr, hbm, hAe, hrb, rfl⟩
    have F₂ := fr_named [(("q" : Str), Value.int q tq), ("r", .int r tr), ("b", .int b t3)] (by intro p hp; simp only [List.mem_cons, List.not_mem_nil, or_false] at hp; rcases hp with rfl | rfl | rfl <;> assumption) F₁
    clear F₁
    (repeat' (first | ((with_reducible refine Blk.into ?_); (first | (with_reducible ((show wpAny _ _ (binaryOp .RShift _ _) _ _ _); refine my_rshift (by first | exact d3sz (by with_reducible assumption) (by with_reducible assumption) (by with_reducible assumption) (by with_reducible assumption) (by with_reducible assumption) (by with_reducible assumption) (by with_reducible assumption) | (first | lia | omega) | assumption) ?_; intro v hvx; (try simp only [show Int.toNat 1 = 1 from rfl, Int.pow_one] at hvx))) | (with_reducible ((show wpAny _ _ (inplaceOp .RShift _ _) _ _ _); refine my_irshift (by first | exact d3sz (by with_reducible assumption) (by with_reducible assumption) (by with_reducible assumption) (by with_reducible assumption) (by with_reducible assumption) (by with_reducible assumption) (by with_reducible assumption) | (first | lia | omega) | assumption) ?_; intro v hvx; (try simp only [show Int.toNat 1 = 1 from rfl, Int.pow_one] at hvx))) | (with_reducible ((show wpAny _ _ (binaryOp .LShift (Value.int 1 _) _) _ _ _); refine lshift_int (by (first | lia | omega)) (by rw [bits_one]; (first | lia | omega)) ?_)) | (with_reducible ((show wpAny _ _ (binaryOp .LShift _ _) _ _ _); refine my_lshift (by first | exact d3sz (by with_reducible assumption) (by with_reducible assumption) (by with_reducible assumption) (by with_reducible assumption) (by with_reducible assumption) (by with_reducible assumption) (by with_reducible assumption) | (first | lia | omega) | assumption) (by first | exact d3sz (by with_reducible assumption) (by with_reducible assumption) (by with_reducible assumption) (by with_reducible assumption) (by with_reducible assumption) (by with_reducible assumption) (by with_reducible assumption) | (first | lia | omega) | assumption) ?_; intro v hvx; (try simp only [show Int.toNat 1 = 1 from rfl, Int.pow_one] at hvx))) | (with_reducible ((show wpAny _ _ (inplaceOp .LShift _ _) _ _ _); refine my_ilshift (by first | exact d3sz (by with_reducible assumption) (by with_reducible assumption) (by with_reducible assumption) (by with_reducible assumption) (by with_reducible assumption) (by with_reducible assumption) (by with_reducible assumption) | (first | lia | omega) | assumption) (by first | exact d3sz (by with_reducible assumption) (by with_reducible assumption) (by with_reducible assumption) (by with_reducible assumption) (by with_reducible assumption) (by with_reducible assumption) (by with_reducible assumption) | (first | lia | omega) | assumption) ?_; intro v hvx; (try simp only [show Int.toNat 1 = 1 from rfl, Int.pow_one] at hvx))) | (with_reducible ((show wpAny _ _ (binaryOp .BitAnd _ _) _ _ _); refine my_and ?_; intro v hvx; (try simp only [bitAnd_m1] at hvx))) | (with_reducible ((show wpAny _ _ (binaryOp .BitOr _ _) _ _ _); refine my_or ?_; intro v hvx)) | (with_reducible ((show wpAny _ _ (binaryOp .Mult _ _) _ _ _); refine my_mul (by first | exact d3sz (by with_reducible assumption) (by with_reducible assumption) (by with_reducible assumption) (by with_reducible assumption) (by with_reducible assumption) (by with_reducible assumption) (by with_reducible assumption) | (first | lia | omega) | assumption) ?_)))) | (k_unfold; (try dsimp only)) | (k_end; wrow_close) | walk1 | (dsimp only; walk1) | (leave1; (try dsimp only))))
    · refine ⟨_, _, _, _, _, rfl, by with_reducible assumption, by with_reducible assumption, ?_, rfl, q - 1, r + b, _, _, by with_unfolding_all rfl, by with_unfolding_all rfl, by with_unfolding_all rfl, d3turn hAe, by (first | lia | omega), rfl⟩
      (first | lia | omega)
    · exact hret _ _ _ _ _ _ _ _ hAe (by (first | lia | omega)) hrb (by with_reducible assumption) (by first | with_reducible assumption | ((rename News _ _ _ _ => dN); first | exact nd1 dN | exact nd1 (nd1 dN) | exact nd1 (nd1 (nd1 dN)) | exact nd1 (nd1 (nd1 (nd1 dN))))) (by ((rename _ < _ ∧ _ => dL); exact allLt_mem (by first | exact dL | exact dL.2 | exact dL.2.2 | exact dL.2.2.2 | exact dL.2.2.2.2 | exact dL.2.2.2.2.2)))

theorem div21_all {prog : Program} {w : World} {p : Program} {loose : List Str} {mean : ExcName → Option Value} {mg mb : Str → Option Value} (k : Nat) : Div21 prog w p loose mean mg mb k := by
  induction k with
  | zero => exact div21_step 0 fun j h => absurd h (by (first | lia | omega))
  | succ k ih =>
    refine div21_step (k + 1) fun j h => ?_
    obtain rfl : j = k := by (first | lia | omega)
    exact div32_step _ ih
end Mine02
end
namespace Mine02
theorem rest7 : True ∧ True := by w_top off; first | (walk1; all_goals trivial) | exact ⟨trivial, trivial⟩
end Mine02

section
open PySem.Calls PyProof.V PySem.Spec
namespace Lp

/-- the end of a turn of a loop: the iterator as it was, the ledger and the names by the word -/
def TurnPost (h₀ : Heap) (L : Addr) (s : Shared) (I : Addr) (it : Obj) (J : (Str → Option Value) → List (Addr × Obj) → Prop) (Q : Flow → Shared → Prop) (f : Flow) (s₃ : Shared) : Prop :=
  match f with
  | .ret v => Q (.ret v) s₃
  | .brk => Q .next s₃
  | _ => ∃ h' tk' m' news', s₃ = { s with heap := h', toks := tk' } ∧ Fr h₀ L h' m' ∧ News h₀ L h' ((I, it) :: news') ∧ (∀ p ∈ news', p.1 ≠ I) ∧ J m' news'

section
variable {prog : Program} {w : World} {A : Around} {E : Value → Shared → Prop} {s : Shared} {env : Env} {h₀ : Heap} {target : Expr} {body : List Stmt} {Q : Flow → Shared → Prop}

theorem turns_core {I : Addr} {fp : List Addr} {n : Nat} {P : Nat → Value → Prop} {St : Nat → Heap → Prop} {m : Str → Option Value} {news : List (Addr × Obj)} {la : Option (Addr × Obj)}
    (W : Walks prog w A I fp [I] n P St) (hfp : ∀ b ∈ fp, b = I ∨ ∃ q, la = some q ∧ b = q.1)
    (hgo : ∀ i v (s : Shared) (Q : Unit → Shared → Prop) (E : Value → Shared → Prop), St i s.heap → Q () s → wpAny (model prog w) A (letOwnedTupleGo target (.ref I) v) Q E s)
    (hL : env.locals ∉ fp) (hI0 : h₀.get? I = none) (hIo : ∀ i h, St i h → ∃ o, h.get? I = some o)
    (hla : ∀ q i h, la = some q → St i h → ∃ o, h.get? q.1 = some o)
    (hst : St 0 s.heap) (F : Fr h₀ env.locals s.heap m) (N : News h₀ env.locals s.heap news) (hoff : ∀ p ∈ news, p.1 ≠ I)
    (J : Nat → (Str → Option Value) → List (Addr × Obj) → Prop) (h0 : J 0 m news) (hJla : ∀ q i m n, la = some q → J i m n → q ∈ n)
    (turn : ∀ i v m₁ news₁ h₁ tk₁ it, i < n → P i v → J i m₁ news₁ → (∀ p ∈ news₁, p.1 ≠ I) → Fr h₀ env.locals h₁ m₁ → News h₀ env.locals h₁ ((I, it) :: news₁) →
      wpAny (model prog w) A (assign target env v) (fun _ s₃ => wpAny (model prog w) A (execs body env) (TurnPost h₀ env.locals s I it (J (i + 1)) Q) E s₃) E { s with heap := h₁, toks := tk₁ })
    (done : ∀ h' tk m' news', J n m' news' → Fr h₀ env.locals h' m' → News h₀ env.locals h' news' → Q .next { s with heap := h', toks := tk }) :
    TurnsAt prog w A h₀ env target body Q E (.ref I) s := by
  refine ⟨I, fp, [I], n, _, _, St, m, news, J, rfl, KTurns.ofWalks W hgo, hL, fun b hb => by rw [List.mem_singleton.mp hb]; exact hI0, fun p hp hm => hoff p hp (List.mem_singleton.mp hm), hst, F, N, h0, ?_, fun h' tk m' news' F' N' _ hJ => done h' tk m' news' hJ F' N'⟩
  intro i v m₁ news₁ h₁ tk₁ own hi hP hJ hoff₁ hown hget hall hst₁ F₁ N₁
  obtain ⟨it, hit⟩ := hIo _ _ hst₁
  have hIf : I ∈ fp := W.sub I (List.mem_singleton.mpr rfl)
  have hmem : (I, it) ∈ own := hall I hIf hI0 it hit
  have N₂ : News h₀ env.locals h₁ ((I, it) :: news₁) := fun p hp => by
    rcases List.mem_cons.mp hp with rfl | hp
    · exact N₁ _ (List.mem_append_left _ hmem)
    · exact N₁ _ (List.mem_append_right _ hp)
  refine wpAny_mono (turn i v m₁ news₁ h₁ tk₁ it hi hP hJ (fun p hp e => hoff₁ p hp (List.mem_singleton.mpr e)) F₁ N₂) (fun _ s₃ h₃ => wpAny_mono h₃ (fun f s₄ h₄ => ?_) fun _ _ e => e) fun _ _ e => e
  have fin : (∃ h' tk' m' news', s₄ = { s with heap := h', toks := tk' } ∧ Fr h₀ env.locals h' m' ∧ News h₀ env.locals h' ((I, it) :: news') ∧ (∀ p ∈ news', p.1 ≠ I) ∧ J (i + 1) m' news') →
      LoopStepU h₀ env.locals [I] own (J (i + 1)) { s with heap := h₁, toks := tk₁ } .next s₄ := by
    rintro ⟨h', tk', m', news', rfl, F', N', ho, hJ'⟩
    refine ⟨rfl, h', tk', m', news', rfl, F', fun p hp => ?_, fun p hp hm => ho p hp (List.mem_singleton.mp hm), hJ'⟩
    rcases List.mem_append.mp hp with hp | hp
    · have hg := hget p hp
      rcases hfp p.1 (hown p hp) with e | ⟨q, hq, e⟩
      · rw [e, hit] at hg
        have : p = (I, it) := Prod.ext e (Option.some.inj hg).symm
        rw [this]; exact N' _ (.head _)
      · have hq1 := hJla q i m₁ news₁ hq hJ
        have hq2 := (N₁ _ (List.mem_append_right _ hq1)).1
        rw [e, hq2] at hg
        have : p = q := Prod.ext e (Option.some.inj hg).symm
        rw [this]; exact N' _ (.tail _ (hJla q _ _ _ hq hJ'))
    · exact N' _ (.tail _ hp)
  cases f with
  | ret v => exact h₄
  | brk => exact h₄
  | next => exact fin h₄
  | cont => exact fin h₄

/-- a loop over a list of the ledger -/
theorem list_turns {ax : Addr} {vs : Array Value} {c : Nat} {m : Str → Option Value} {news : List (Addr × Obj)}
    (hh : A.handled = none) (F : Fr h₀ env.locals s.heap m) (N : News h₀ env.locals s.heap news) (hm : (ax, ({ cls := .type "list", data := .seq vs c } : Obj)) ∈ news)
    (J : Nat → (Str → Option Value) → List (Addr × Obj) → Prop) (h0 : J 0 m news) (hJ : ∀ i m n, J i m n → (ax, ({ cls := .type "list", data := .seq vs c } : Obj)) ∈ n)
    (turn : ∀ I i v m₁ news₁ h₁ tk₁ it, i < vs.size → vs[i]? = some v → J i m₁ news₁ → (∀ p ∈ news₁, p.1 ≠ I) → Fr h₀ env.locals h₁ m₁ → News h₀ env.locals h₁ ((I, it) :: news₁) →
      wpAny (model prog w) A (assign target env v) (fun _ s₃ => wpAny (model prog w) A (execs body env) (TurnPost h₀ env.locals s I it (J (i + 1)) Q) E s₃) E { s with heap := h₁, toks := tk₁ })
    (done : ∀ h' tk m' news', J vs.size m' news' → Fr h₀ env.locals h' m' → News h₀ env.locals h' news' → Q .next { s with heap := h', toks := tk }) :
    wpAny (model prog w) A (pyIter (.ref ax)) (fun it s₂ => TurnsAt prog w A h₀ env target body Q E it s₂) E s := by
  have hax := N _ hm
  have hl : s.heap.IsList ax vs := ⟨_, hax.1, rfl, c, rfl⟩
  have hlt : ax < s.heap.objs.size := Heap.lt_size hax.1
  have hne : ax ≠ s.heap.objs.size := Nat.ne_of_lt hlt
  refine wpAny_pyIter_list hl ?_
  refine turns_core (s := { s with heap := s.heap.push _ }) (la := some (ax, { cls := .type "list", data := .seq vs c })) (Walks.list hh s.heap.objs.size ax hne vs) (fun b hb => ?_) (fun i v s Q E st q => letGo_listiter st.1 q) ?_ (next_is_new F)
    (fun i h st => ?_) (fun q i h e st => ?_) ⟨⟨_, Heap.get?_push_size _ rfl, rfl, rfl⟩, hl.at fun o e => Heap.get?_push_of_some _ e⟩ (F.push _) (fun p hp => ⟨Heap.get?_push_of_some _ (N p hp).1, (N p hp).2⟩) (fun p hp e => absurd (Heap.lt_size (N p hp).1) (e ▸ Nat.lt_irrefl _))
    J h0 (fun q i m n e hj => by cases e; exact hJ i m n hj) (fun i v m₁ news₁ h₁ tk₁ it hi hP hj ho F₁ N₁ => turn s.heap.objs.size i v m₁ news₁ h₁ tk₁ it hi hP hj ho F₁ N₁) done
  · have hb' : b = s.heap.objs.size ∨ b = ax := by simpa using hb
    rcases hb' with e | e
    · exact .inl e
    · exact .inr ⟨_, rfl, e⟩
  · intro hI
    rcases List.mem_cons.mp hI with e | hI
    · exact absurd F.ns.lt (e ▸ Nat.lt_irrefl _)
    · exact hax.2.1 (List.mem_singleton.mp hI).symm
  · obtain ⟨it, hit, _⟩ := st.1
    exact ⟨it, hit⟩
  · cases e
    obtain ⟨o, ho, _⟩ := st.2
    exact ⟨o, ho⟩

/-- a loop over a range by ones -/
theorem range_turns {r : Addr} {a₀ b₀ : Int} {t₀ u₀ v₀ : Tok} {n : Nat} {m : Str → Option Value} {news : List (Addr × Obj)} {x : Str} {px : Pos}
    (hh : A.handled = none) (hr : IsRange s.heap r a₀ b₀ 1 t₀ u₀ v₀) (hsmall : Builtin.Range.small a₀ b₀ 1 = true) (hn : Builtin.Range.rangeSize a₀ b₀ 1 = (n : Int)) (F : Fr h₀ env.locals s.heap m) (N : News h₀ env.locals s.heap news)
    (J : Nat → (Str → Option Value) → List (Addr × Obj) → Prop) (h0 : J 0 m news)
    (turn : ∀ I i t m₁ news₁ h₁ tk₁ it, i < n → J i m₁ news₁ → (∀ p ∈ news₁, p.1 ≠ I) → Fr h₀ env.locals h₁ m₁ → News h₀ env.locals h₁ ((I, it) :: news₁) →
      wpAny (model prog w) A (assign (.Name x px) env (.int (a₀ + i) t)) (fun _ s₃ => wpAny (model prog w) A (execs body env) (TurnPost h₀ env.locals s I it (J (i + 1)) Q) E s₃) E { s with heap := h₁, toks := tk₁ })
    (done : ∀ h' tk m' news', J n m' news' → Fr h₀ env.locals h' m' → News h₀ env.locals h' news' → Q .next { s with heap := h', toks := tk }) :
    wpAny (model prog w) A (pyIter (.ref r)) (fun it s₂ => TurnsAt prog w A h₀ env (.Name x px) body Q E it s₂) E s := by
  refine wpAny_pyIter_range hr hsmall ?_
  have W : Walks prog w A s.heap.objs.size [s.heap.objs.size] [s.heap.objs.size] n (fun i v => i < n ∧ ∃ t, v = .int (a₀ + i * 1) t)
      (fun i h => IsRangeIter h s.heap.objs.size (a₀ + (i : Nat) * 1) ((n : Int) - (i : Nat)) 1) := (Walks.range hh _ a₀ 1 n).bound
  refine turns_core (s := { s with heap := s.heap.push _ }) (la := none) W (fun b hb => .inl (List.mem_singleton.mp hb)) (fun i v s Q E _ q => wpAny_pure q) ?_ (next_is_new F) (fun i h st => ⟨_, st⟩) (fun q i h e => nomatch e)
    (by show IsRangeIter _ _ _ _ _; rw [hn]; simpa using Heap.get?_push_size _ rfl) (F.push _) (fun p hp => ⟨Heap.get?_push_of_some _ (N p hp).1, (N p hp).2⟩) (fun p hp e => absurd (Heap.lt_size (N p hp).1) (e ▸ Nat.lt_irrefl _))
    J h0 (fun q i m n e => nomatch e) (fun i v m₁ news₁ h₁ tk₁ it hi hP hj ho F₁ N₁ => ?_) done
  · intro hI
    exact absurd F.ns.lt ((List.mem_singleton.mp hI) ▸ Nat.lt_irrefl _)
  · obtain ⟨_, t, rfl⟩ := hP
    rw [Int.mul_one]
    exact turn s.heap.objs.size i t m₁ news₁ h₁ tk₁ it hi hj ho F₁ N₁
end
end Lp
end
namespace Mine02
theorem rest8 : True ∧ True := by w_top off; first | (walk1; all_goals trivial) | exact ⟨trivial, trivial⟩
end Mine02

section
open PySem PySem.W PySem.Calls PyProof.Rows
namespace Ns1
section
variable {M : Model} {A : Around} {E : Value → Shared → Prop} {s : Shared}
/-- the frame of a nested def that has cells of its own: one argument -/
theorem newEnv_cl {scope : Scope} {globals : Addr} {closure : List (Str × Addr)} {x : Str} {v : Value} {qual : Str} {func : Option Addr} {code : Value} {builtins : Addr} {Q : Env → Shared → Prop}
    (hk : scope.kind = .function) (hx : scope.names.lookup x = some .local)
    (hQ : ∀ h' tk, h'.Ns s.heap.objs.size (fun y => if y = x then some v else none) → (∀ b o, s.heap.get? b = some o → h'.get? b = some o) →
      (∀ n c, (n, c) ∈ cellsFrom (s.heap.objs.size + 1) scope.names [] → h'.IsCell c none ∧ s.heap.objs.size < c) →
      Q (newEnv scope s.heap.objs.size globals (cellsFrom (s.heap.objs.size + 1) scope.names closure) qual func code none builtins) { s with heap := h', toks := tk }) :
    wpAny M A (newFunctionEnv scope globals closure [(x, v)] qual func code none builtins) Q E s := by
  simp only [newFunctionEnv, Option.isSome_none, Bool.false_eq_true, if_false]
  refine wpAny_bind (wpAny_alloc ?_)
  refine wpAny_bind (wpAny_layCells _ (fun name kind cells => by cases hkc : kind == NameKind.cell <;> simp [hkc]) _ _ _ _ ?_)
  have ok := cellsFrom_ok scope.names (s.heap.push { cls := .type "frame", data := .dict #[] }) (s.heap.objs.size + 1) [] ⟨fun _ _ hm => (nomatch hm), List.Pairwise.nil⟩ (by rw [Heap.size_push]; exact Nat.le_refl _)
  rw [Heap.size_push] at ok
  rw [show ({ s with heap := s.heap.push { cls := .type "frame", data := .dict #[] } } : Shared).heap.objs.size = s.heap.objs.size + 1 from Heap.size_push ..]
  rw [List.forIn_cons]
  simp only [List.forIn_nil]
  refine wpAny_bind (wpAny_bind (wpAny_bind ?_))
  refine wpAny_storeName_local hx ((Heap.Ns.new s.heap (.type "frame")).keeps (pushCells_keeps _ _)) (fun h' hn hs => ?_) (by show (scope.kind == .class || _) = false; rw [hk]; rfl)
  refine wpAny_pure (wpAny_pure (wpAny_pure (hQ h' _ hn (fun b o e => ?_) fun n c hm => ?_)))
  · exact hs.extBut b o (Nat.ne_of_lt (Heap.lt_size e)) (pushCells_keeps _ _ b o (Heap.get?_push_of_some _ e))
  · have := ok.empty n c hm
    exact ⟨this.1.sameBut hs (by have := this.2; exact Nat.ne_of_gt this), this.2⟩
end
section
variable {prog : Program} {w : World} {A A₀ : Around} {s : Shared} {K : Frag} {L : Addr} {h₀ base : Heap} {m mg mb : Str → Option Value} {news : List (Addr × Obj)} {p : Program} {loose : List Str} {mean : ExcName → Option Value}
/-- a call of a nested def that has cells of its own: one argument -/
theorem code_nestC {env : Env} {outer : List Env} {R : Result → Shared → Prop} {name qual : Str} {params : Arguments} {body : List Stmt} {scope : Scope} {cl : List (Str × Addr)} {doc pm ctv : Value} {c' : Addr} {f : Addr} {args : Args} {x : Str} {v : Value}
    (B : Below A₀ base outer h₀) (F : Fr h₀ L s.heap m) (X₀ : K.In h₀) (N : News h₀ L s.heap news) (T : Top p loose mean mg mb h₀) (hA : A.frames = some (env :: outer)) (hf : env.frame = some L) (hke : env.scope.kind = .function)
    (ho : (f, fnMade name qual params body scope cl doc pm c' ctv) ∈ news) (hcd : s.heap.CodeRec (.ref c') qual) (hroom : A.depth < recursionLimit)
    (hbind : BindsTo s (fnX name qual params body scope cl .none .none doc pm none (.ref c') ctv) args [(x, v)]) (hloc : scope.names.lookup x = some .local) (hnd : ((cellsFrom 0 scope.names []).map (·.1)).Nodup)
    (h : ∀ g L' h₁ tk cells, Fr h₀ L g m → Fr g L' h₁ (fun y => if y = x then some v else none) → News g L' h₁ (cells ++ news) → CellsAre (fun _ => none) (cellsFrom (L' + 1) scope.names []) cells → Below A base (env :: outer) g → K.In g → Top p loose mean mg mb g → (∀ p ∈ news, p.1 < L') →
      wpAny (model prog w) (A.deeper (envX qual scope L' f (.ref c') (cellsFrom (L' + 1) scope.names cl))) (execs body (envX qual scope L' f (.ref c') (cellsFrom (L' + 1) scope.names cl)))
        (fun fl s' => LeaveK h₀ L m g R (match fl with | .ret v => v | _ => .none) s')
        (fun e s' => wpAny (model prog w) (A.deeper (envX qual scope L' f (.ref c') (cellsFrom (L' + 1) scope.names cl))) (leaving (envX qual scope L' f (.ref c') (cellsFrom (L' + 1) scope.names cl)) e) (fun _ s'' => R (.error e) s'') (fun e' s'' => R (.error e') s'') s')
        { s with heap := h₁, toks := tk })
    (hco : scope.isCoroutine = false) (hgen : scope.isGenerator = false) (hk : scope.kind = .function) : codeAny (model prog w) A (.call (.ref f) args) R s := by
  obtain ⟨FG, BG, st, lv⟩ := groundX (R := R) B F N hA hf hke
  refine codeAny_call_function hroom (N _ ho).1 rfl hco hgen rfl hcd (hbind _ _ _ _ ?_)
  refine newEnv_cl hk hloc fun h₁ tk ns kept cel => ⟨(T.nolimit.keeps F.keep).keeps kept, codeAny_func ?_⟩
  obtain ⟨cells, NC, Y⟩ := Cl.news (h₀ := s.heap) (cm := fun _ => none) (Nat.le_refl _) fun n c hm => cel n c hm
  refine wpAny_mono (h _ s.heap.objs.size h₁ tk cells FG ⟨ns, fun b o e => kept b o (of_hideAll _ e), Nat.le_of_eq (hideAll_size _ _)⟩ (fun p hp => ?_) Y BG (X₀.keeps st) (T.keeps st) (fun p hp => Heap.lt_size (N p hp).1)) (fun fl s' hl => lv _ _ hl) fun _ _ y => y
  rcases List.mem_append.mp hp with hp | hp
  · refine ⟨(NC p hp).1, (NC p hp).2.1, ?_⟩
    cases q : (hideAll s.heap (news.map (·.1))).get? p.1 with
    | none => rfl
    | some o => have := of_hideAll _ q; rw [(NC p hp).2.2] at this; cases this
  · exact ⟨kept _ _ (N p hp).1, Nat.ne_of_lt (Heap.lt_size (N p hp).1), hideAll_none _ (List.mem_map_of_mem hp)⟩
end
section
variable {prog : Program} {w : World} {A : Around} {E : Value → Shared → Prop} {s : Shared} {h₀ : Heap} {L : Addr} {m : Str → Option Value} {env : Env}
/-- where a comprehension over a range takes its items: any step -/
def SrcS (prog : Program) (w : World) (A : Around) (h₀ : Heap) (L : Addr) (m : Str → Option Value) (env : Env) (elt : Expr) (x : Str) (scope : Scope) (cl : List (Str × Addr)) (Fin : Shared → List Value → List (Addr × Obj) → Prop) (xv : Value) (s₁ : Shared) : Prop :=
  ∃ r a b c t u v n news, xv = .ref r ∧ A.handled = none ∧ Fr h₀ L s₁.heap m ∧ News h₀ L s₁.heap news ∧ IsRange s₁.heap r a b c t u v ∧ Builtin.Range.small a b c = true ∧ Builtin.Range.rangeSize a b c = ((n : Nat) : Int) ∧ n ≤ sizeLine ∧
    ∀ s₂ : Shared, (∃ h, s₂ = { s₁ with heap := h }) → LCg.CompRest prog w A h₀ L m env elt x scope cl s₂ (fun _ => True) (fun i v => ∃ t, v = .int (a + (i : Int) * c) t) (Fin s₂) n 0 [] news
theorem range_st {I : Addr} {a c : Int} {n : Nat} : ∀ i (h h' : Heap) (o : Obj) (nw : List (Addr × Obj)), IsRangeIter h I (a + (i : Nat) * c) ((n : Int) - (i : Nat)) c → h.get? I = some o → h'.get? I = some o → (∀ b o, h₀.get? b = some o → h'.get? b = some o) → News h₀ L h' nw → True → IsRangeIter h' I (a + (i : Nat) * c) ((n : Int) - (i : Nat)) c :=
  fun i h h' o nw st e e' _ _ _ => by
    have st' : h.get? I = some _ := st
    show h'.get? I = some _
    rw [e', ← e]; exact st'
theorem ListComp_S {elt iter : Expr} {x : Str} {px : Pos} {scope : Scope} {cl : List (Str × Addr)} {pos : Pos} {Q : Value → Shared → Prop} (F₀ : Fr h₀ L s.heap m)
    (hclos : closureFor scope env = pure cl) (hcell : ∀ y ∈ scope.names, y.2 ≠ .cell) (hkind : scope.kind = .function)
    (hnames : ∀ y ∈ scope.names, y.2 = .local → scope.names.lookup y.1 = some .local) (hx : scope.names.lookup x = some .local)
    (h : wpAny (model prog w) A (eval iter env) (SrcS prog w A h₀ L m env elt x scope cl (fun s₂ => LCg.FinE h₀ L m s₂ Q)) E s)
    (hs : ∀ x, foldedSetIterable iter env x = pure x := by intro _; rfl) :
    wpAny (model prog w) A (eval (.ListComp elt [⟨.Name x px, iter, [], 0⟩] scope pos) env) Q E s := by
  rw [eval_ListComp]
  refine wpAny_comprehension_free (use := none) rfl hs hclos hkind hnames (wpAny_mono h (fun xv s₁ h₁ => ?_) fun _ _ e => e)
  obtain ⟨r, a, b, c, t, u, v, n, news, rfl, hh, F, N, hr, hsm, hn, hsz, R⟩ := h₁
  refine wpAny_pyIter_range hr hsm ?_
  refine LCg.block_U (Walks.range hh _ a c n) hsz (fun i h st => ⟨_, st⟩) range_st hcell hkind hx (by show IsRangeIter _ _ _ _ _; rw [hn]; simpa using Heap.get?_push_size _ rfl) (fun b hb => ?_)
    (F.keeps fun _ _ e => Heap.get?_push_of_some _ e) (N.grown fun _ _ e => Heap.get?_push_of_some _ e) (Nat.ne_of_lt F.ns.lt) (next_is_new F) (fun p hp => Nat.ne_of_lt (Heap.lt_size (N p hp).1)) trivial (R _ ⟨_, rfl⟩) ?_
  · rw [List.mem_singleton.mp hb]
    show s₁.heap.objs.size < (s₁.heap.push _).objs.size
    rw [Heap.size_push]; exact Nat.lt_succ_self _
  · intro D C h tk m' ys news' F' N' o1 hn hC₀ hD₀ hCL hDL hCD offC fin
    refine ⟨m', hn, fun h'' hs'' => fin D h'' tk (F'.change hs'' hCL hC₀) (fun p hp => ?_) o1⟩
    refine ⟨hs''.extBut _ _ ?_ (N' p hp).1, (N' p hp).2⟩
    rcases List.mem_cons.mp hp with rfl | hp
    · exact Ne.symm hCD
    · exact offC p hp
end
end Ns1
end
namespace Mine02
theorem rest9 : True ∧ True := by w_top off; first | (walk1; all_goals trivial) | exact ⟨trivial, trivial⟩
end Mine02

section
open PySem PySem.W PySem.Spec PySem.Calls PyProof.Rows
namespace Cp
open LCt LCg
section
variable {prog : Program} {w : World} {A : Around} {s : Shared} {h₀ : Heap} {L : Addr} {m : Str → Option Value} {env : Env}
/-- a comprehension with a test, over a list of any length -/
theorem rest_all {ct elt : Expr} {x : Str} {scope : Scope} {cl : List (Str × Addr)} {S : List (Addr × Obj) → Prop} {P : Nat → Value → Prop} {Fin : List Value → List (Addr × Obj) → Prop} {news : List (Addr × Obj)} {n : Nat} (J : Nat → List Value → Prop)
    (turn : ∀ i ys, i < n → J i ys → ∀ v I oI C oC D m₂ h tk (E' : Value → Shared → Prop), P i v → NsObj oC m₂ → m₂ x = some v → Fr h₀ L h m → News h₀ L h ((I, oI) :: (C, oC) :: (D, lst ys) :: news) → Off3 I C D news → ((@Ne Nat I C) ∧ (@Ne Nat I D) ∧ (@Ne Nat C D)) →
      wpAny (model prog w) A (isTrue ct (compEnvC scope cl C env) (eval ct (compEnvC scope cl C env))) (fun ok s' => if ok = true then
        wpAny (model prog w) A (eval elt (compEnvC scope cl C env)) (CompEnd h₀ L m { s with heap := h, toks := tk } I oI C oC D (lst ys) S (fun y news' => news' = news ∧ J (i + 1) (ys ++ [y]))) E' s'
        else CompEnd h₀ L m { s with heap := h, toks := tk } I oI C oC D (lst ys) S (fun _ news' => news' = news ∧ J (i + 1) ys) Value.none s') E' { s with heap := h, toks := tk })
    (done : ∀ ys, J n ys → Fin ys news) : ∀ k i ys, k + i = n → J i ys → CompRestT prog w A h₀ L m env ct elt x scope cl s S P Fin k i ys news := by
  intro k
  induction k with
  | zero =>
    intro i ys e j
    have : i = n := by omega
    subst this
    exact CompRestT.zero (done ys j)
  | succ k ih =>
    intro i ys e j
    refine CompRestT.succ fun v I oI C oC D m₂ h tk E' p1 p2 p3 F N off ne => ?_
    refine wpAny_mono (turn i ys (by omega) j v I oI C oC D m₂ h tk E' p1 p2 p3 F N off ne) (fun ok s' h' => ?_) fun _ _ e => e
    cases ok with
    | true =>
      simp only [if_true] at h' ⊢
      refine wpAny_mono h' (fun y s'' h'' => ?_) fun _ _ e => e
      obtain ⟨h2, tk2, news', e2, F2, N2, o2, S2, rfl, j2⟩ := h''
      exact ⟨h2, tk2, _, e2, F2, N2, o2, S2, ih (i + 1) _ (by omega) j2⟩
    | false =>
      simp only [Bool.false_eq_true, if_false] at h' ⊢
      obtain ⟨h2, tk2, news', e2, F2, N2, o2, S2, rfl, j2⟩ := h'
      exact ⟨h2, tk2, _, e2, F2, N2, o2, S2, ih (i + 1) _ (by omega) j2⟩
theorem ledger_all {ct elt : Expr} {x : Str} {scope : Scope} {cl : List (Str × Addr)} {Fin : Shared → List Value → List (Addr × Obj) → Prop} {ax : Addr} {its : Array Value} {k : Nat} {news : List (Addr × Obj)} {s₁ : Shared} (J : Nat → List Value → Prop)
    (hh : A.handled = none) (F : Fr h₀ L s₁.heap m) (N : News h₀ L s₁.heap news) (hm : (ax, ({ cls := .type "list", data := .seq its k } : Obj)) ∈ news) (hsz : its.size ≤ sizeLine) (j0 : J 0 [])
    (turn : ∀ g i ys v, its[i]? = some v → J i ys → ∀ I oI C oC D m₂ h tk (E' : Value → Shared → Prop), NsObj oC m₂ → m₂ x = some v → Fr h₀ L h m → News h₀ L h ((I, oI) :: (C, oC) :: (D, lst ys) :: news) → Off3 I C D news → ((@Ne Nat I C) ∧ (@Ne Nat I D) ∧ (@Ne Nat C D)) →
      wpAny (model prog w) A (isTrue ct (compEnvC scope cl C env) (eval ct (compEnvC scope cl C env))) (fun ok s' => if ok = true then
        wpAny (model prog w) A (eval elt (compEnvC scope cl C env)) (CompEnd h₀ L m { { s₁ with heap := g } with heap := h, toks := tk } I oI C oC D (lst ys) (SrcAt h₀ ax its) (fun y news' => news' = news ∧ J (i + 1) (ys ++ [y]))) E' s'
        else CompEnd h₀ L m { { s₁ with heap := g } with heap := h, toks := tk } I oI C oC D (lst ys) (SrcAt h₀ ax its) (fun _ news' => news' = news ∧ J (i + 1) ys) Value.none s') E' { { s₁ with heap := g } with heap := h, toks := tk })
    (done : ∀ g ys, J its.size ys → Fin { s₁ with heap := g } ys news) :
    CompSrcT prog w A h₀ L m env ct elt x scope cl Fin (.ref ax) s₁ :=
  CompSrcT.ledger hh F N hm hsz fun g => rest_all (n := its.size) J (fun i ys hi j v I oI C oC D m₂ h tk E' p1 p2 p3 F N off ne => turn g i ys v p1 j I oI C oC D m₂ h tk E' p2 p3 F N off ne) (done g) its.size 0 [] (by omega) j0
/-- a comprehension without a test, of any length -/
theorem plain_all {elt : Expr} {x : Str} {scope : Scope} {cl : List (Str × Addr)} {S : List (Addr × Obj) → Prop} {P : Nat → Value → Prop} {Fin : List Value → List (Addr × Obj) → Prop} {news : List (Addr × Obj)} {n : Nat} (J : Nat → List Value → Prop)
    (turn : ∀ i ys, i < n → J i ys → ∀ v I oI C oC D m₂ h tk (E' : Value → Shared → Prop), P i v → NsObj oC m₂ → m₂ x = some v → Fr h₀ L h m → News h₀ L h ((I, oI) :: (C, oC) :: (D, lst ys) :: news) → Off3 I C D news → ((@Ne Nat I C) ∧ (@Ne Nat I D) ∧ (@Ne Nat C D)) →
      wpAny (model prog w) A (eval elt (compEnvC scope cl C env)) (CompEnd h₀ L m { s with heap := h, toks := tk } I oI C oC D (lst ys) S (fun y news' => news' = news ∧ J (i + 1) (ys ++ [y]))) E' { s with heap := h, toks := tk })
    (done : ∀ ys, J n ys → Fin ys news) : ∀ k i ys, k + i = n → J i ys → CompRest prog w A h₀ L m env elt x scope cl s S P Fin k i ys news := by
  intro k
  induction k with
  | zero =>
    intro i ys e j
    have : i = n := by omega
    subst this
    exact CompRest.zero (done ys j)
  | succ k ih =>
    intro i ys e j
    refine CompRest.succ fun v I oI C oC D m₂ h tk E' p1 p2 p3 F N off ne => ?_
    refine wpAny_mono (turn i ys (by omega) j v I oI C oC D m₂ h tk E' p1 p2 p3 F N off ne) (fun y s'' h'' => ?_) fun _ _ e => e
    obtain ⟨h2, tk2, news', e2, F2, N2, o2, S2, rfl, j2⟩ := h''
    exact ⟨h2, tk2, _, e2, F2, N2, o2, S2, ih (i + 1) _ (by omega) j2⟩
theorem range_all {elt : Expr} {x : Str} {scope : Scope} {cl : List (Str × Addr)} {Fin : Shared → List Value → List (Addr × Obj) → Prop} {r : Addr} {a b : Int} {t u v : Tok} {n : Nat} {news : List (Addr × Obj)} {s₁ : Shared} (J : Nat → List Value → Prop)
    (hh : A.handled = none) (F : Fr h₀ L s₁.heap m) (N : News h₀ L s₁.heap news) (hr : IsRange s₁.heap r a b 1 t u v) (hsm : Builtin.Range.small a b 1 = true) (hn : Builtin.Range.rangeSize a b 1 = ((n : Nat) : Int)) (hsz : n ≤ sizeLine) (j0 : J 0 [])
    (turn : ∀ g i ys tv, i < n → J i ys → ∀ I oI C oC D m₂ h tk (E' : Value → Shared → Prop), NsObj oC m₂ → m₂ x = some (.int (a + (i : Int)) tv) → Fr h₀ L h m → News h₀ L h ((I, oI) :: (C, oC) :: (D, lst ys) :: news) → Off3 I C D news → ((@Ne Nat I C) ∧ (@Ne Nat I D) ∧ (@Ne Nat C D)) →
      wpAny (model prog w) A (eval elt (compEnvC scope cl C env)) (CompEnd h₀ L m { { s₁ with heap := g } with heap := h, toks := tk } I oI C oC D (lst ys) (fun _ => True) (fun y news' => news' = news ∧ J (i + 1) (ys ++ [y]))) E' { { s₁ with heap := g } with heap := h, toks := tk })
    (done : ∀ g ys, J n ys → Fin { s₁ with heap := g } ys news) :
    CompSrc prog w A h₀ L m env elt x scope cl Fin (.ref r) s₁ :=
  CompSrc.range hh F N hr hsm hn hsz fun g => plain_all (n := n) J (fun i ys hi j v I oI C oC D m₂ h tk E' p1 p2 p3 F N off ne => by
    obtain ⟨tv, rfl⟩ := p1
    exact turn g i ys tv hi j I oI C oC D m₂ h tk E' p2 p3 F N off ne) (done g) n 0 [] (by omega) j0
end
end Cp
end
namespace Mine02
theorem rest10 : True ∧ True := by w_top off; first | (walk1; all_goals trivial) | exact ⟨trivial, trivial⟩
end Mine02

section
namespace Mine02
open DivM


/-- the low bytes of a number, lowest first -/
def lowL (x : Int) (n : Nat) : List UInt8 := (List.range n).map fun i => (x / 2 ^ (8 * i) % 256).toNat.toUInt8
theorem lowL_length (x : Int) (n : Nat) : (lowL x n).length = n := by simp [lowL]
theorem low_ints (x n : Int) : byteArr (List.map (fun k' => Builtin.bitAnd (x.fdiv (2 ^ (8 * k').toNat)) 255) (rangeKs 0 (n - 0).toNat)) = (lowL x n.toNat).toArray := by
  unfold byteArr lowL rangeKs
  rw [List.map_map, List.map_map, Int.sub_zero]
  congr 1
  refine List.map_congr_left fun i _ => ?_
  show (Builtin.bitAnd (x.fdiv (2 ^ (8 * (0 + (i : Int))).toNat)) 255).toNat.toUInt8 = _
  rw [bitAnd_m8, Int.fdiv_eq_ediv_of_nonneg _ (by have := two_pow_pos (8 * (0 + (i : Int))).toNat; omega)]
  congr 6
  omega
theorem in_and255 (f : Int → Int) (l : List Int) : KBa.In (l.map fun k => Builtin.bitAnd (f k) 255) := by
  intro n hn
  obtain ⟨k, _, rfl⟩ := List.mem_map.mp hn
  rw [bitAnd_m8]
  omega

theorem ndt {h₀ h : Heap} {L : Addr} {x : Addr × Obj} {r : List (Addr × Obj)} (N : News h₀ L h (x :: r)) : News h₀ L h r := cb_drop N fun _ hp => .tail _ hp
/-- where a call stands -/
abbrev Here (w : World) (p : Program) (loose : List Str) (mean : ExcName → Option Value) (mg mb : Str → Option Value) (lv dp un : Nat) (cs : Scope) (outer : List Env) (A₀ : Around) (base h₀ : Heap) (L : Addr) (m : Str → Option Value) (news : List (Addr × Obj)) (h : Heap) : Prop :=
  Below A₀ base outer h₀ ∧ Fr h₀ L h m ∧ (hd.heap_39 w.params).In h₀ ∧ News h₀ L h news ∧ Top p loose mean mg mb h₀ ∧ cs.kind = .function ∧ dp + 5 * lv < 850 ∧ un + 50 * lv < 8800


theorem my_badd {prog : Program} {w : World} {A : Around} {E : Value → Shared → Prop} {s : Shared} {Q : Value → Shared → Prop} {a b : List UInt8} {t u : Tok} (hz : a.length + b.length ≤ 16777216)
    (h : ∀ t' k, Q (.bytes (a ++ b).toArray t') { s with toks := k }) : wpAny (model prog w) A (binaryOp .Add (.bytes a.toArray t) (.bytes b.toArray u)) Q E s :=
  KBy.add_bytes (by simpa using hz) fun t' k => by have := h t' k; simpa using this
theorem my_item {prog : Program} {w : World} {A : Around} {E : Value → Shared → Prop} {s : Shared} {h₀ : Heap} {L : Addr} {news : List (Addr × Obj)} {value slice : Expr} {l : Addr} {vs : Array Value} {c : Nat} {k : Int} {u : Tok} {v : Value} {Q : Value → Shared → Prop}
    (N : News h₀ L s.heap news) (hm : (l, ({ cls := .type "list", data := .seq vs c } : Obj)) ∈ news) (h0 : 0 ≤ k) (hhi : k < 2 ^ 63) (hx : vs[k.toNat]? = some v) (h : Q v s)
    (hs : subscripted slice false (.ref l) (.int k u) = operate [.ref l, .int k u] (getItem (.ref l) (.int k u)) := by with_unfolding_all rfl) :
    wpAny (model prog w) A (subscriptTail value slice (.ref l) (.int k u)) Q E s :=
  have hl : s.heap.IsList l vs := ⟨_, (N _ hm).1, rfl, _, rfl⟩
  tail_any hl.typeIs slot_list_getitem.lookup (wpAny_getItem_list hl h0 hhi hx h) hs
theorem memOf {α : Type} {a : α} {l : List α} (h : a ∈ l) : List.Mem a l := h
theorem my_unrEnd {h₀ : Heap} {L I : Addr} {it : Obj} {rest : (Str → Option Value) → List (Addr × Obj) → Prop} {s₁ : Shared} {h' : Heap} {tk : Nat} {m' : Str → Option Value} {news : List (Addr × Obj)} (F : Fr h₀ L h' m') (N : News h₀ L h' ((I, it) :: news))
    (off : ∀ p ∈ news, p.1 < I) (r : rest m' news) : UnrEnd h₀ L s₁ I it rest { s₁ with heap := h', toks := tk } := UnrEnd.intro F N news (fun _ h => h) (fun p hp => Nat.ne_of_lt (off p hp)) r
theorem arr_list {a : Array UInt8} : a = a.toList.toArray := by simp
theorem stLo1 {M A Q E s y0} (h : Blk (wpAny M A (call (Value.type "bytes") [Value.ref y0]) Q E s)) : wpAny M A (call (Value.type "bytes") [Value.ref y0]) Q E s := h
local macro_rules | `(tactic| walk_at "call type:bytes") => `(tactic| with_reducible refine stLo1 ?_)
theorem stLo2 {M A Q E s y0} (h : Blk (wpAny M A (call (Value.ref 130) y0) Q E s)) : wpAny M A (call (Value.ref 130) y0) Q E s := h
local macro_rules | `(tactic| walk_at "call ref") => `(tactic| with_reducible refine stLo2 ?_)
local macro_rules | `(tactic| walk_at "binaryOp Add bytes bytes") => `(tactic| refine Blk.out ?_)
theorem stLo3 {M A Q E s y0 y1 y2 y3 y4} (h : Blk (wpAny M A (subscriptTail y0 y1 (Value.ref y2) (Value.int y3 y4)) Q E s)) : wpAny M A (subscriptTail y0 y1 (Value.ref y2) (Value.int y3 y4)) Q E s := h
local macro_rules | `(tactic| walk_at "subscriptTail") => `(tactic| with_reducible refine stLo3 ?_)
local macro_rules | `(tactic| walk_at "UnrEnd") => `(tactic| (refine my_unrEnd (by k_asm) (by k_asm) (by k_asm) ?_))
section
variable {prog : Program} {w : World} {p : Program} {loose : List Str} {mean : ExcName → Option Value} {mg mb : Str → Option Value}
  {dp un : Nat} {gd : Option (List Code)} {cn : Str} {cs : Scope} {ad : Addr} {ccd : Value} {cl : List (Str × Addr)} {outer : List Env} {A₀ : Around} {base h₀ : Heap} {L : Addr} {m : Str → Option Value} {news : List (Addr × Obj)} {s : Shared} {Q E : Value → Shared → Prop}
theorem low_call {x n : Int} {tx tn : Tok} (hn : 0 ≤ n ∧ n ≤ 64) (H : Here w p loose mean mg mb 0 dp un cs outer A₀ base h₀ L m news s.heap)
    (hret : ∀ t h' tk', Fr h₀ L h' m → News h₀ L h' news → Q (.bytes (lowL x n.toNat).toArray t) { s with heap := h', toks := tk' }) :
    wpAny (model prog w) (ktrTop dp un gd cn cs L ad ccd cl outer) (call (.ref 130) [.int x tx, .int n tn]) Q E s := by
  obtain ⟨B, F, X, N, T, hk, hd, hu⟩ := H
  obtain ⟨hn0, hn1⟩ := hn
  refine wpAny_call ?_
  k_dflt ((refine' code_defC ?k1_2 ?k2_2 ?k3_2 ?k4_2 ?k5_2 ?kA_2 ?kF_2 ?kK_2 ?k6_2 ?k7_2 ?k8_2 ?k9_2 ?kB_2 ?kD_2 ?_ ?c2_2 ?c3_2 ?c4_2; (case kA_2 => exact rfl); (case kF_2 => exact rfl); (case kK_2 => (first | with_reducible assumption | assumption)); (case k1_2 => k_asm); (case k2_2 => k_asm); (case k3_2 => k_asm); (case k4_2 => k_asm); (case k5_2 => k_asm); (case k6_2 => k_is); (case k7_2 => k_is); (case k8_2 => ktr_room); (case k9_2 => exact BindsTo.of_eq rfl); (case kB_2 => exact rfl); (case kD_2 => decide +kernel); (case c2_2 => exact rfl); (case c3_2 => exact rfl); (case c4_2 => exact rfl); k_whole; intro g' L' h' tk' cells' FG' F' N' Y' B' X' T' lc9'; (try k_lt lc9'); k_cells Y'; (try simp only [List.cons_append, List.nil_append] at N'); (try dsimp only); (try k_lift B'); (try k_fold)))
  (repeat' (first | ((with_reducible refine Blk.into ?_); (first | (with_reducible ((show wpAny _ _ (call (Value.type "bytes") [Value.ref _]) _ _ _); k_dflt (refine' KBa.make_K ?kbaF_3 ?kbaN_3 ?kbah_3 ?kbal_3 ?kbai_3 ?kbar_3 ?kban_3 ?_; (case kbaF_3 => k_asm); (case kbaN_3 => k_asm); (case kbah_3 => rfl); (case kbal_3 => kba_isList); (case kbai_3 => assumption); (case kbar_3 => exact in_and255 _ _); (case kban_3 => (simp only [List.length_map, rangeKs_length]; omega))); intro _ _ _ F' N' kbaIn; (try rw [low_ints]))) | (with_reducible ((show wpAny _ _ (binaryOp .Add (Value.bytes _ _) (Value.bytes _ _)) _ _ _); ((first | (with_reducible refine my_badd ?_ ?_) | refine my_badd (b := [_, _, _, _]) ?_ ?_ | refine my_badd ?_ ?_); · (simp only [List.length_append, lowL_length, List.length_cons, List.length_nil]; omega)); intro t' tk')) | (with_reducible ((show wpAny _ _ (subscriptTail _ _ (Value.ref _) (Value.int _ _)) _ _ _); k_dflt (refine my_item (by k_asm) (by k_mem) (by decide) (by decide) (by with_unfolding_all rfl) ?_ (by with_unfolding_all rfl)))))) | (k_unfold; (try dsimp only)) | (k_end; wrow_close) | walk1 | (dsimp only; walk1) | (leave1; (try dsimp only))))
  exact hret _ _ _ (by with_reducible assumption) (by first | with_reducible assumption | ((rename News _ _ _ _ => dN); first | exact ndt dN | exact ndt (ndt dN) | exact ndt (ndt (ndt dN)) | exact ndt (ndt (ndt (ndt dN))) | exact ndt (ndt (ndt (ndt (ndt dN))))))
end
end Mine02
end
namespace Mine02
theorem rest11 : True ∧ True := by w_top off; first | (walk1; all_goals trivial) | exact ⟨trivial, trivial⟩
end Mine02

section
namespace Mine02
open DivM Lp Bm

/-- what a call of seek does: the offset is stored, and nothing else -/
abbrev SeekK (prog : Program) (w : World) (p : Program) (loose : List Str) (mean : ExcName → Option Value) (mg mb : Str → Option Value) (dx fs : Addr) (td : Value → Obj) (S : List (Addr × Obj)) : Prop :=
  ∀ (o : Int) (to : Tok) (v : Value) (dp un : Nat) (gd : Option (List Code)) (cn : Str) (cs : Scope) (ad : Addr) (ccd : Value) (cl : List (Str × Addr)) (outer : List Env) (A₀ : Around) (base h₀ : Heap) (L : Addr) (m : Str → Option Value) (rest : List (Addr × Obj)) (s : Shared) (Q E : Value → Shared → Prop),
    Here w p loose mean mg mb 5 dp un cs outer A₀ base h₀ L m ((dx, td v) :: rest) s.heap → (∀ q ∈ S, q ∈ rest) → (∀ q ∈ rest, q.1 ≠ dx) →
    (∀ h' tk', Fr h₀ L h' m → News h₀ L h' ((dx, td (.int o to)) :: rest) → Q .none { s with heap := h', toks := tk' }) →
    wpAny (model prog w) (ktrTop dp un gd cn cs L ad ccd cl outer) (call (.ref fs) [.int o to]) Q E s
/-- what a call of read does: the bytes from the offset on -/
abbrev ReadK (prog : Program) (w : World) (p : Program) (loose : List Str) (mean : ExcName → Option Value) (mg mb : Str → Option Value) (dx fr : Addr) (td : Value → Obj) (S : List (Addr × Obj)) (PB : List UInt8) : Prop :=
  ∀ (o cnt : Int) (to tc : Tok) (dp un : Nat) (gd : Option (List Code)) (cn : Str) (cs : Scope) (ad : Addr) (ccd : Value) (cl : List (Str × Addr)) (outer : List Env) (A₀ : Around) (base h₀ : Heap) (L : Addr) (m : Str → Option Value) (rest : List (Addr × Obj)) (s : Shared) (Q E : Value → Shared → Prop),
    Here w p loose mean mg mb 5 dp un cs outer A₀ base h₀ L m ((dx, td (.int o to)) :: rest) s.heap → (∀ q ∈ S, q ∈ rest) → (∀ q ∈ rest, q.1 ≠ dx) → 0 ≤ o → 0 ≤ cnt → cnt ≤ 64 → o + cnt ≤ (PB.length : Int) →
    (∀ t t' h' tk', Fr h₀ L h' m → News h₀ L h' ((dx, td (.int (o + cnt) t')) :: rest) → Q (.bytes ((PB.drop o.toNat).take cnt.toNat).toArray t) { s with heap := h', toks := tk' }) →
    wpAny (model prog w) (ktrTop dp un gd cn cs L ad ccd cl outer) (call (.ref fr) [.int cnt tc]) Q E s
/-- how the reel's two are met -/
abbrev GetK (prog : Program) (w : World) (x dx f : Addr) (name : Str) (td : Value → Obj) (S : List (Addr × Obj)) : Prop :=
  ∀ (v : Value) (A : Around) (h₀ : Heap) (L : Addr) (m : Str → Option Value) (rest : List (Addr × Obj)) (s : Shared) (pl : Sem Bool) (Q : Value × List Value → Shared → Prop) (E : Value → Shared → Prop),
    Fr h₀ L s.heap m → (hd.heap_39 w.params).In h₀ → News h₀ L s.heap ((dx, td v) :: rest) → (∀ q ∈ S, q ∈ rest) →
    (∀ tk', Q (.ref f, []) { s with toks := tk' }) → wpAny (model prog w) A (getMethod (.ref x) name pl) Q E s
abbrev seekQ : Str := Str.ofString "_law_reel.<locals>._law_seek"
abbrev readQ : Str := Str.ofString "_law_reel.<locals>._law_read"
/-- the code table of the reel's def, both of its defs made -/
abbrev hitTb (c1 c2 : Addr) : Array Value := #[rawInt 123, rawInt 4, .ref c1, rawInt 126, rawInt 4, .ref c2]
inductive TabHit (news : List (Addr × Obj)) (c1 c2 : Addr) : Prop
  | mk (oc1 oc2 : Obj) (v1 v2 : Array Value) (t1 t2 : Tok) (m1 : (c1, oc1) ∈ news) (m2 : (c2, oc2) ∈ news) (g1 : oc1.data = .fields v1) (g2 : v1[1]? = some (.str seekQ t1)) (g3 : oc2.data = .fields v2) (g4 : v2[1]? = some (.str readQ t2)) : TabHit news c1 c2
/-- the function stands there -/
abbrev FnK (f : Addr) (S : List (Addr × Obj)) : Prop := ∀ (h₀ h : Heap) (L : Addr) (news : List (Addr × Obj)), News h₀ L h news → (∀ q ∈ S, q ∈ news) → FnAt f h
/-- the reel's own dict -/
abbrev reelD (w : World) (u1 u2 u3 u4 : Tok) (f1 f2 : Addr) (v : Value) : Obj :=
  dictOf [⟨PyData.keyHash w.params (Str.ofString "fp"), .str (Str.ofString "fp") u1, .none⟩, ⟨PyData.keyHash w.params (Str.ofString "offset"), .str (Str.ofString "offset") u2, v⟩, ⟨PyData.keyHash w.params (Str.ofString "seek"), .str (Str.ofString "seek") u3, .ref f1⟩, ⟨PyData.keyHash w.params (Str.ofString "read"), .str (Str.ofString "read") u4, .ref f2⟩] 4
theorem hit_led {h₀ h : Heap} {L f1 f2 c1 c2 : Addr} {of1 of2 oc1 oc2 : Obj} {r news : List (Addr × Obj)} (N : News h₀ L h ((f2, of2) :: (f1, of1) :: r)) (m1 : (c1, oc1) ∈ news) (m2 : (c2, oc2) ∈ news) (hs : ∀ q ∈ news, q ∈ r := by intro q hq; repeat (first | exact hq | refine List.Mem.tail _ ?_)) :
    News h₀ L h ((f2, of2) :: (c2, oc2) :: (f1, of1) :: (c1, oc1) :: r) := cb_drop N fun q hq => by
  simp only [List.mem_cons] at hq ⊢
  rcases hq with h | h | h | h | h
  · exact .inl h
  · subst h; exact .inr (.inr (hs _ m2))
  · exact .inr (.inl h)
  · subst h; exact .inr (.inr (hs _ m1))
  · exact .inr (.inr h)
theorem ltN {a b : Addr} (h : a < b) : @LT.lt Nat instLTNat a b := h
/-- the two functions' objects -/
abbrev seekO (mg : Str → Option Value) (sc : Scope) (pS : Arguments) (bS : List Stmt) (sS : Scope) (l : Addr) (d : Value) (c : Addr) (ct : Value) : Obj :=
  fnMade (Str.ofString "_law_seek") (qualnameIn (envOfC (Str.ofString "_law_reel") sc l 144 (.ref 143)) (Str.ofString "_law_seek") (Str.ofString "_law_seek")) pS bS sS [(Str.ofString "reel", l + 1 + 1 + 1)] d ((mg (Str.ofString "__name__")).getD Value.none) c ct
abbrev readO (mg : Str → Option Value) (sc : Scope) (pR : Arguments) (bR : List Stmt) (sR : Scope) (l : Addr) (d : Value) (c : Addr) (ct : Value) : Obj :=
  fnMade (Str.ofString "_law_read") (qualnameIn (envOfC (Str.ofString "_law_reel") sc l 144 (.ref 143)) (Str.ofString "_law_read") (Str.ofString "_law_read")) pR bR sR [(Str.ofString "size", l + 1 + 1), (Str.ofString "reel", l + 1 + 1 + 1), (Str.ofString "pile", l + 1)] d ((mg (Str.ofString "__name__")).getD Value.none) c ct
/-- what a call of _law_reel brings -/
abbrev ReelRet (w : World) (oS oR : Addr → Value → Addr → Value → Obj) (pile size : Int) (old news : List (Addr × Obj)) (h₀ : Heap) (L : Addr) (m : Str → Option Value) (s : Shared) (Q : Value → Shared → Prop) : Prop :=
  ∀ (l f1 f2 c1 c2 x dx : Addr) (oc1 oc2 k1 k2 k3 : Obj) (v1 v2 : Array Value) (d1 d2 ct1 ct2 : Value) (u1 u2 u3 u4 t0 tp tz tt1 tt2 : Tok) (h' : Heap) (tk' : Nat), Fr h₀ L h' m →
    News h₀ L h' ((f2, oR l d2 c2 ct2) :: (c2, oc2) :: (f1, oS l d1 c1 ct1) :: (c1, oc1) :: (x, instObj 107 dx) :: (dx, reelD w u1 u2 u3 u4 f1 f2 (.int 0 t0)) :: (l + 1 + 1 + 1, k3) :: (l + 1 + 1, k2) :: (l + 1, k1) :: (139, tabObj (hitTb c1 c2)) :: news) →
    k1.data = .cell (some (.int pile tp)) → k2.data = .cell (some (.int size tz)) → k3.data = .cell (some (.ref x)) → oc1.data = .fields v1 → v1[1]? = some (.str seekQ tt1) → oc2.data = .fields v2 → v2[1]? = some (.str readQ tt2) →
    @LT.lt Nat instLTNat 139 l → AllLt l news → @LT.lt Nat instLTNat (l + 1 + 1 + 1) dx → @LT.lt Nat instLTNat dx x → @LT.lt Nat instLTNat dx f1 → @LT.lt Nat instLTNat dx f2 → ((c1, oc1) ∈ old ∨ @LT.lt Nat instLTNat dx c1) → ((c2, oc2) ∈ old ∨ @LT.lt Nat instLTNat dx c2) → Q (.ref x) { s with heap := h', toks := tk' }
/-- what stands of a reel, but for its dict -/
abbrev reelS (oS oR : Addr → Value → Addr → Value → Obj) (l f1 f2 c1 c2 x dx : Addr) (oc1 oc2 k1 k2 k3 : Obj) (d1 d2 ct1 ct2 : Value) : List (Addr × Obj) :=
  [(f2, oR l d2 c2 ct2), (c2, oc2), (f1, oS l d1 c1 ct1), (c1, oc1), (x, instObj 107 dx), (l + 1 + 1 + 1, k3), (l + 1 + 1, k2), (l + 1, k1)]
theorem ints_snoc2 {ys : List Value} {f : Nat → Int} {i : Nat} {y : Int} {t : Tok} (h : IntsAre ys ((List.range i).map f)) (e : y = f i) : IntsAre (ys ++ [.int y t]) ((List.range (i + 1)).map f) := by
  rw [List.range_succ, List.map_append, List.map_singleton, ← e]
  exact IntsAre.append h (.cons _ t .nil)
theorem read_bytes {PB : List UInt8} {o cnt part left : Int} (h0 : 0 ≤ o) (h1 : 0 ≤ cnt) (h2 : o + cnt ≤ (PB.length : Int)) (hl : left = PB.length - o - cnt) (hp : part = (beN PB).fdiv (2 ^ (8 * left).toNat) % 256 ^ cnt.toNat) :
    byteArr ((List.range cnt.toNat).map fun (j : Nat) => Builtin.bitAnd (part.fdiv (2 ^ (8 * (cnt - 1 + (j : Int) * -1)).toNat)) 255) = ((PB.drop o.toNat).take cnt.toNat).toArray := by
  obtain ⟨o, rfl⟩ := Int.eq_ofNat_of_zero_le h0
  obtain ⟨c, rfl⟩ := Int.eq_ofNat_of_zero_le h1
  simp only [Int.toNat_natCast] at *
  have key := hi_part (l := PB) (o := o) (c := c) (by omega)
  rw [← key]
  unfold byteArr hiL
  rw [List.map_map]
  congr 1
  refine List.map_congr_left fun j hj => ?_
  have hj := List.mem_range.mp hj
  show (Builtin.bitAnd (part.fdiv (2 ^ (8 * ((c : Int) - 1 + (j : Int) * -1)).toNat)) 255).toNat.toUInt8 = _
  rw [bitAnd_m8, Int.fdiv_eq_ediv_of_nonneg _ (by have := two_pow_pos (8 * ((c : Int) - 1 + (j : Int) * -1)).toNat; omega), hp, Int.fdiv_eq_ediv_of_nonneg _ (by have := two_pow_pos (8 * left).toNat; omega)]
  rw [show (8 * left).toNat = 8 * (PB.length - o - c) by omega, show (8 * ((c : Int) - 1 + (j : Int) * -1)).toNat = 8 * (c - 1 - j) by omega]
theorem in_and255r (f : Nat → Int) (l : List Nat) : KBa.In (l.map fun k => Builtin.bitAnd (f k) 255) := by
  intro n hn
  obtain ⟨k, _, rfl⟩ := List.mem_map.mp hn
  rw [bitAnd_m8]
  omega
theorem mod256 {prog : Program} {w : World} {A : Around} {E : Value → Shared → Prop} {s : Shared} {a : Int} {n : Nat} {t u : Tok} {Q : Value → Shared → Prop} (h : ∀ v : Int, v = a % 256 ^ n → Q (.int v s.toks) { s with toks := s.toks + 1 }) :
    wpAny (model prog w) A (binaryOp .Mod (.int a t) (.int (256 ^ n) u)) Q E s :=
  mod_int' (by have := pow256_pos n; omega) (h _ (Int.fmod_eq_emod_of_nonneg _ (by have := pow256_pos n; omega)))
theorem cells_one {cm : Str → Option Value} {n₁ : Str} {c₁ : Addr} {cells : List (Addr × Obj)} (x : CellsAre cm [(n₁, c₁)] cells) : ∃ o₁, cells = [(c₁, o₁)] ∧ o₁.data = .cell (cm n₁) := x.one
local macro_rules | `(tactic| walk_at "call ref") => `(tactic| refine Blk.out ?_)
local macro_rules | `(tactic| walk_at "binaryOp Mod int int") => `(tactic| refine Blk.out ?_)
local macro_rules | `(tactic| walk_at "eval ListComp") => `(tactic| refine Blk.out ?_)
local macro_rules | `(tactic| walk_at "call type:bytes") => `(tactic| refine Blk.out ?_)
theorem get_seek {w : World} {prog : Program} {oS oR : Addr → Value → Addr → Value → Obj} {l f1 f2 c1 c2 x dx : Addr} {oc1 oc2 k1 k2 k3 : Obj} {d1 d2 ct1 ct2 : Value} {u1 u2 u3 u4 : Tok} :
    GetK prog w x dx f1 "seek" (reelD w u1 u2 u3 u4 f1 f2) (reelS oS oR l f1 f2 c1 c2 x dx oc1 oc2 k1 k2 k3 d1 d2 ct1 ct2) := by
  intro v A h₀ L m rest s pl Q E F X N hS hq
  have s4 := hS _ (.tail _ (.tail _ (.tail _ (.tail _ (.head _)))))
  clear hS
  dsimp only [reelD] at N
  (repeat' (first | ((with_reducible refine Blk.into ?_); (first | ((with_reducible show wpAny _ _ (call (Value.ref _) _) _ _ _); k_dflt (refine' call_cls ?ks1_4 ?ks2_4 ?ks3_4 ?ks4_4 ?ks5_4 ?ks6_4 ?_; (case ks1_4 => k_asm); (case ks2_4 => k_asm); (case ks3_4 => k_asm); (case ks4_4 => k_is); (case ks5_4 => k_is); (case ks6_4 => k_is); k_whole; intro xq' dq' hq' Fq' Nq' lq1' lq2'; (try k_lt lq1'); (try k_lt2 lq2'); (try k_sweep); (refine' code_def ?k1_5 ?k2_5 ?k3_5 ?k4_5 ?k5_5 ?kA_5 ?kF_5 ?kK_5 ?k6_5 ?k7_5 ?k8_5 ?k9_5 ?kB_5 ?_ ?c2_5 ?c3_5 ?c4_5 ?c5_5; (case kA_5 => exact rfl); (case kF_5 => exact rfl); (case kK_5 => first | exact rfl | (first | with_reducible assumption | assumption)); (case k1_5 => k_asm); (case k2_5 => k_asm); (case k3_5 => k_asm); (case k4_5 => k_asm); (case k5_5 => k_asm); (case k6_5 => k_is); (case k7_5 => k_is); (case k8_5 => ktr_room); (case k9_5 => first | exact BindsTo.of_eq rfl | exact binds_K (by k_in) rfl (by k_is) rfl rfl rfl); (case c5_5 => decide); (case kB_5 => exact locs rfl); (case c2_5 => exact rfl); (case c3_5 => exact rfl); (case c4_5 => exact rfl); k_whole; intro g' L' h' FG' F' N' B' X' T'; (try dsimp only); (try k_lift B'); (try k_fold)))) | ((with_reducible show wpAny _ _ (binaryOp .Mod (Value.int _ _) (Value.int _ _)) _ _ _); (refine mod256 ?_); intro pt9 ept9) | ((with_reducible show wpAny _ _ (eval (Expr.ListComp _ _ _ _) _) _ _ _); k_dflt (refine Ns1.ListComp_S (F₀ := by k_asm) (by rfl) (by decide) (by rfl) (by decide) (by rfl) ?_)))) | (k_unfold; (try dsimp only)) | (k_end; wrow_close) | walk1 | (dsimp only; walk1) | (leave1; (try dsimp only))))
  exact hq _
theorem get_read {w : World} {prog : Program} {oS oR : Addr → Value → Addr → Value → Obj} {l f1 f2 c1 c2 x dx : Addr} {oc1 oc2 k1 k2 k3 : Obj} {d1 d2 ct1 ct2 : Value} {u1 u2 u3 u4 : Tok} :
    GetK prog w x dx f2 "read" (reelD w u1 u2 u3 u4 f1 f2) (reelS oS oR l f1 f2 c1 c2 x dx oc1 oc2 k1 k2 k3 d1 d2 ct1 ct2) := by
  intro v A h₀ L m rest s pl Q E F X N hS hq
  have s4 := hS _ (.tail _ (.tail _ (.tail _ (.tail _ (.head _)))))
  clear hS
  dsimp only [reelD] at N
  (repeat' (first | ((with_reducible refine Blk.into ?_); (first | ((with_reducible show wpAny _ _ (call (Value.ref _) _) _ _ _); k_dflt (refine' call_cls ?ks1_6 ?ks2_6 ?ks3_6 ?ks4_6 ?ks5_6 ?ks6_6 ?_; (case ks1_6 => k_asm); (case ks2_6 => k_asm); (case ks3_6 => k_asm); (case ks4_6 => k_is); (case ks5_6 => k_is); (case ks6_6 => k_is); k_whole; intro xq' dq' hq' Fq' Nq' lq1' lq2'; (try k_lt lq1'); (try k_lt2 lq2'); (try k_sweep); (refine' code_def ?k1_7 ?k2_7 ?k3_7 ?k4_7 ?k5_7 ?kA_7 ?kF_7 ?kK_7 ?k6_7 ?k7_7 ?k8_7 ?k9_7 ?kB_7 ?_ ?c2_7 ?c3_7 ?c4_7 ?c5_7; (case kA_7 => exact rfl); (case kF_7 => exact rfl); (case kK_7 => first | exact rfl | (first | with_reducible assumption | assumption)); (case k1_7 => k_asm); (case k2_7 => k_asm); (case k3_7 => k_asm); (case k4_7 => k_asm); (case k5_7 => k_asm); (case k6_7 => k_is); (case k7_7 => k_is); (case k8_7 => ktr_room); (case k9_7 => first | exact BindsTo.of_eq rfl | exact binds_K (by k_in) rfl (by k_is) rfl rfl rfl); (case c5_7 => decide); (case kB_7 => exact locs rfl); (case c2_7 => exact rfl); (case c3_7 => exact rfl); (case c4_7 => exact rfl); k_whole; intro g' L' h' FG' F' N' B' X' T'; (try dsimp only); (try k_lift B'); (try k_fold)))) | ((with_reducible show wpAny _ _ (binaryOp .Mod (Value.int _ _) (Value.int _ _)) _ _ _); (refine mod256 ?_); intro pt9 ept9) | ((with_reducible show wpAny _ _ (eval (Expr.ListComp _ _ _ _) _) _ _ _); k_dflt (refine Ns1.ListComp_S (F₀ := by k_asm) (by rfl) (by decide) (by rfl) (by decide) (by rfl) ?_)))) | (k_unfold; (try dsimp only)) | (k_end; wrow_close) | walk1 | (dsimp only; walk1) | (leave1; (try dsimp only))))
  exact hq _
section
variable {prog : Program} {w : World} {p : Program} {loose : List Str} {mean : ExcName → Option Value} {mg mb : Str → Option Value}
theorem reel_objs : ∃ (pS pR : Arguments) (bS bR : List Stmt) (sS sR sc : Scope) (oS oR : Addr → Value → Addr → Value → Obj), oS = seekO mg sc pS bS sS ∧ oR = readO mg sc pR bR sR ∧
    (∀ {dp un : Nat} {gd : Option (List Code)} {cn : Str} {cs : Scope} {ad : Addr} {ccd : Value} {cl : List (Str × Addr)} {outer : List Env} {A₀ : Around} {base h₀ : Heap} {L : Addr} {m : Str → Option Value} {old news : List (Addr × Obj)} {s : Shared} {Q E : Value → Shared → Prop} {pile size : Int} {t1 t2 : Tok},
      CodeHd base 143 139 → (∀ p ∈ news, p.1 ≠ 139) → Here w p loose mean mg mb 10 dp un cs outer A₀ base h₀ L m ((139, tabObj #[]) :: news) s.heap → ReelRet w oS oR pile size old news h₀ L m s Q →
      wpAny (model prog w) (ktrTop dp un gd cn cs L ad ccd cl outer) (call (.ref 144) [.int pile t1, .int size t2]) Q E s) ∧
    (∀ {dp un : Nat} {gd : Option (List Code)} {cn : Str} {cs : Scope} {ad : Addr} {ccd : Value} {cl : List (Str × Addr)} {outer : List Env} {A₀ : Around} {base h₀ : Heap} {L : Addr} {m : Str → Option Value} {old news : List (Addr × Obj)} {s : Shared} {Q E : Value → Shared → Prop} {pile size : Int} {t1 t2 : Tok} {c1 c2 : Addr},
      CodeHd base 143 139 → (∀ p ∈ news, p.1 ≠ 139) → Here w p loose mean mg mb 10 dp un cs outer A₀ base h₀ L m ((139, tabObj (hitTb c1 c2)) :: news) s.heap → (∀ q ∈ old, q ∈ news) → TabHit old c1 c2 → ReelRet w oS oR pile size old news h₀ L m s Q →
      wpAny (model prog w) (ktrTop dp un gd cn cs L ad ccd cl outer) (call (.ref 144) [.int pile t1, .int size t2]) Q E s) ∧
    (∀ {l f1 f2 c1 c2 x dx : Addr} {oc1 oc2 k1 k2 k3 : Obj} {v1 v2 : Array Value} {d1 d2 ct1 ct2 : Value} {u1 u2 u3 u4 tp tz tt1 tt2 : Tok} {PB : List UInt8} {bq : Heap}, CodeHd bq 143 139 →
      k1.data = .cell (some (.int (beN PB) tp)) → k2.data = .cell (some (.int PB.length tz)) → k3.data = .cell (some (.ref x)) → oc1.data = .fields v1 → v1[1]? = some (.str seekQ tt1) → oc2.data = .fields v2 → v2[1]? = some (.str readQ tt2) → PB.length ≤ 100000 →
      SeekK prog w p loose mean mg mb dx f1 (reelD w u1 u2 u3 u4 f1 f2) (reelS oS oR l f1 f2 c1 c2 x dx oc1 oc2 k1 k2 k3 d1 d2 ct1 ct2) ∧ ReadK prog w p loose mean mg mb dx f2 (reelD w u1 u2 u3 u4 f1 f2) (reelS oS oR l f1 f2 c1 c2 x dx oc1 oc2 k1 k2 k3 d1 d2 ct1 ct2) PB ∧
      FnK f1 (reelS oS oR l f1 f2 c1 c2 x dx oc1 oc2 k1 k2 k3 d1 d2 ct1 ct2) ∧ FnK f2 (reelS oS oR l f1 f2 c1 c2 x dx oc1 oc2 k1 k2 k3 d1 d2 ct1 ct2)) := by
  apply Exists.intro
  apply Exists.intro
  apply Exists.intro
  apply Exists.intro
  apply Exists.intro
  apply Exists.intro
  apply Exists.intro
  apply Exists.intro
  apply Exists.intro
  refine ⟨rfl, rfl, ?cold, ?hit, ?parts⟩
  case cold =>
    intro dp un gd cn cs ad ccd cl outer A₀ base h₀ L m old news s Q E pile size t1 t2 C hn H hret
    obtain ⟨B, F, X, N, T, hk, hdp, hu⟩ := H
    refine wpAny_call ?_
    k_dflt ((refine' code_defC ?k1_8 ?k2_8 ?k3_8 ?k4_8 ?k5_8 ?kA_8 ?kF_8 ?kK_8 ?k6_8 ?k7_8 ?k8_8 ?k9_8 ?kB_8 ?kD_8 ?_ ?c2_8 ?c3_8 ?c4_8; (case kA_8 => exact rfl); (case kF_8 => exact rfl); (case kK_8 => (first | with_reducible assumption | assumption)); (case k1_8 => k_asm); (case k2_8 => k_asm); (case k3_8 => k_asm); (case k4_8 => k_asm); (case k5_8 => k_asm); (case k6_8 => k_is); (case k7_8 => k_is); (case k8_8 => ktr_room); (case k9_8 => exact BindsTo.of_eq rfl); (case kB_8 => exact rfl); (case kD_8 => decide +kernel); (case c2_8 => exact rfl); (case c3_8 => exact rfl); (case c4_8 => exact rfl); k_whole; intro g' l h' tk' cells' FG' F' N' Y' B' X' T' lc9'; (try k_lt lc9'); (try simp only [List.cons_append, List.nil_append] at N'); (try dsimp only); (try k_lift B'); (try k_fold)))
    rename CellsAre _ _ _ => Y
    obtain ⟨o1, o2, o3, hE, d1, d2, d3⟩ := Y.three
    subst hE
    clear Y
    rename _ ∧ AllLt _ _ => l1
    rename Below _ _ _ _ => B9
    have hC := CodeHd.keeps C (Below.stays B9)
    rename News _ _ _ _ => N'
    simp only [List.cons_append, List.nil_append] at N'
    (repeat' (first | ((with_reducible refine Blk.into ?_); (first | ((with_reducible show wpAny _ _ (call (Value.ref _) _) _ _ _); k_dflt (refine' call_cls ?ks1_9 ?ks2_9 ?ks3_9 ?ks4_9 ?ks5_9 ?ks6_9 ?_; (case ks1_9 => k_asm); (case ks2_9 => k_asm); (case ks3_9 => k_asm); (case ks4_9 => k_is); (case ks5_9 => k_is); (case ks6_9 => k_is); k_whole; intro xq' dq' hq' Fq' Nq' lq1' lq2'; (try k_lt lq1'); (try k_lt2 lq2'); (try k_sweep); (refine' code_def ?k1_10 ?k2_10 ?k3_10 ?k4_10 ?k5_10 ?kA_10 ?kF_10 ?kK_10 ?k6_10 ?k7_10 ?k8_10 ?k9_10 ?kB_10 ?_ ?c2_10 ?c3_10 ?c4_10 ?c5_10; (case kA_10 => exact rfl); (case kF_10 => exact rfl); (case kK_10 => first | exact rfl | (first | with_reducible assumption | assumption)); (case k1_10 => k_asm); (case k2_10 => k_asm); (case k3_10 => k_asm); (case k4_10 => k_asm); (case k5_10 => k_asm); (case k6_10 => k_is); (case k7_10 => k_is); (case k8_10 => ktr_room); (case k9_10 => first | exact BindsTo.of_eq rfl | exact binds_K (by k_in) rfl (by k_is) rfl rfl rfl); (case c5_10 => decide); (case kB_10 => exact locs rfl); (case c2_10 => exact rfl); (case c3_10 => exact rfl); (case c4_10 => exact rfl); k_whole; intro g' L' h' FG' F' N' B' X' T'; (try dsimp only); (try k_lift B'); (try k_fold)))) | ((with_reducible show wpAny _ _ (binaryOp .Mod (Value.int _ _) (Value.int _ _)) _ _ _); (refine mod256 ?_); intro pt9 ept9) | ((with_reducible show wpAny _ _ (eval (Expr.ListComp _ _ _ _) _) _ _ _); k_dflt (refine Ns1.ListComp_S (F₀ := by k_asm) (by rfl) (by decide) (by rfl) (by decide) (by rfl) ?_)))) | (k_unfold; (try dsimp only)) | (k_end; wrow_close) | walk1 | (dsimp only; walk1) | (leave1; (try dsimp only))))
    rename_i f1 c1 oc1 v1 tt1 ct1 dc1 _ _ _ _ _ _ _ _ _ _ _ f2 c2 oc2 v2 tt2 ct2 dc2 _ _ _ _ _ _ _ _ _ _ _ _ _ _ _ _ _ _ _ _ _
    rename Fr h₀ L _ m => FF
    rename News h₀ L _ _ => NN
    refine hret l f1 f2 c1 c2 _ _ oc1 oc2 _ _ _ v1 v2 dc1 dc2 ct1 ct2 _ _ _ _ _ t1 t2 tt1 tt2 _ _ FF NN ?_ ?_ ?_ ?_ ?_ ?_ ?_ ?_ ?_ ?_ ?_ ?_ ?_ ?_ ?_
    case refine_1 => exact d3.trans (by with_unfolding_all rfl)
    case refine_2 => exact d2.trans (by with_unfolding_all rfl)
    case refine_3 => assumption
    case refine_4 => assumption
    case refine_5 => assumption
    case refine_6 => assumption
    case refine_7 => assumption
    case refine_8 => exact l1.1
    case refine_9 => exact l1.2
    all_goals first | (left; assumption) | (right; omega) | omega
  case hit =>
    intro dp un gd cn cs ad ccd cl outer A₀ base h₀ L m old news s Q E pile size t1 t2 c1 c2 C hn H hold hh hret
    obtain ⟨B, F, X, N, T, hk, hdp, hu⟩ := H
    obtain ⟨oc1, oc2, v1, v2, tt1, tt2, mm1, mm2, g1, g2, g3, g4⟩ := hh
    refine wpAny_call ?_
    k_dflt ((refine' code_defC ?k1_11 ?k2_11 ?k3_11 ?k4_11 ?k5_11 ?kA_11 ?kF_11 ?kK_11 ?k6_11 ?k7_11 ?k8_11 ?k9_11 ?kB_11 ?kD_11 ?_ ?c2_11 ?c3_11 ?c4_11; (case kA_11 => exact rfl); (case kF_11 => exact rfl); (case kK_11 => (first | with_reducible assumption | assumption)); (case k1_11 => k_asm); (case k2_11 => k_asm); (case k3_11 => k_asm); (case k4_11 => k_asm); (case k5_11 => k_asm); (case k6_11 => k_is); (case k7_11 => k_is); (case k8_11 => ktr_room); (case k9_11 => exact BindsTo.of_eq rfl); (case kB_11 => exact rfl); (case kD_11 => decide +kernel); (case c2_11 => exact rfl); (case c3_11 => exact rfl); (case c4_11 => exact rfl); k_whole; intro g' l h' tk' cells' FG' F' N' Y' B' X' T' lc9'; (try k_lt lc9'); (try simp only [List.cons_append, List.nil_append] at N'); (try dsimp only); (try k_lift B'); (try k_fold)))
    rename CellsAre _ _ _ => Y
    obtain ⟨o1, o2, o3, hE, d1, d2, d3⟩ := Y.three
    subst hE
    clear Y
    rename _ ∧ AllLt _ _ => l1
    rename Below _ _ _ _ => B9
    have hC := CodeHd.keeps C (Below.stays B9)
    rename News _ _ _ _ => N'
    simp only [List.cons_append, List.nil_append] at N'
    (repeat' (first | ((with_reducible refine Blk.into ?_); (first | ((with_reducible show wpAny _ _ (call (Value.ref _) _) _ _ _); k_dflt (refine' call_cls ?ks1_12 ?ks2_12 ?ks3_12 ?ks4_12 ?ks5_12 ?ks6_12 ?_; (case ks1_12 => k_asm); (case ks2_12 => k_asm); (case ks3_12 => k_asm); (case ks4_12 => k_is); (case ks5_12 => k_is); (case ks6_12 => k_is); k_whole; intro xq' dq' hq' Fq' Nq' lq1' lq2'; (try k_lt lq1'); (try k_lt2 lq2'); (try k_sweep); (refine' code_def ?k1_13 ?k2_13 ?k3_13 ?k4_13 ?k5_13 ?kA_13 ?kF_13 ?kK_13 ?k6_13 ?k7_13 ?k8_13 ?k9_13 ?kB_13 ?_ ?c2_13 ?c3_13 ?c4_13 ?c5_13; (case kA_13 => exact rfl); (case kF_13 => exact rfl); (case kK_13 => first | exact rfl | (first | with_reducible assumption | assumption)); (case k1_13 => k_asm); (case k2_13 => k_asm); (case k3_13 => k_asm); (case k4_13 => k_asm); (case k5_13 => k_asm); (case k6_13 => k_is); (case k7_13 => k_is); (case k8_13 => ktr_room); (case k9_13 => first | exact BindsTo.of_eq rfl | exact binds_K (by k_in) rfl (by k_is) rfl rfl rfl); (case c5_13 => decide); (case kB_13 => exact locs rfl); (case c2_13 => exact rfl); (case c3_13 => exact rfl); (case c4_13 => exact rfl); k_whole; intro g' L' h' FG' F' N' B' X' T'; (try dsimp only); (try k_lift B'); (try k_fold)))) | ((with_reducible show wpAny _ _ (binaryOp .Mod (Value.int _ _) (Value.int _ _)) _ _ _); (refine mod256 ?_); intro pt9 ept9) | ((with_reducible show wpAny _ _ (eval (Expr.ListComp _ _ _ _) _) _ _ _); k_dflt (refine Ns1.ListComp_S (F₀ := by k_asm) (by rfl) (by decide) (by rfl) (by decide) (by rfl) ?_)))) | (k_unfold; (try dsimp only)) | (k_end; wrow_close) | walk1 | (dsimp only; walk1) | (leave1; (try dsimp only))))
    rename_i f1 ct1 dc1 _ _ _ _ _ _ _ _ f2 ct2 dc2 _ _ _ _ _ _ _ _ _ _ _ _ _ _ _ _ _ _
    rename Fr h₀ L _ m => FF
    rename News h₀ L _ _ => NN
    have NN := hit_led NN (hold _ mm1) (hold _ mm2)
    refine hret l f1 f2 c1 c2 _ _ oc1 oc2 _ _ _ v1 v2 dc1 dc2 ct1 ct2 _ _ _ _ _ t1 t2 tt1 tt2 _ _ FF NN ?_ ?_ ?_ ?_ ?_ ?_ ?_ ?_ ?_ ?_ ?_ ?_ ?_ ?_ ?_
    case refine_1 => exact d3.trans (by with_unfolding_all rfl)
    case refine_2 => exact d2.trans (by with_unfolding_all rfl)
    case refine_3 => assumption
    case refine_4 => assumption
    case refine_5 => assumption
    case refine_6 => assumption
    case refine_7 => assumption
    case refine_8 => exact l1.1
    case refine_9 => exact l1.2
    all_goals first | (left; assumption) | (right; omega) | omega
  case parts =>
    intro l f1 f2 c1 c2 x dx oc1 oc2 k1 k2 k3 v1 v2 d1 d2 ct1 ct2 u1 u2 u3 u4 tp tz tt1 tt2 PB bq hCq e1 e2 e3 g1 g2 g3 g4 hz
    refine ⟨?seek, ?read, ?fn1, ?fn2⟩
    case seek =>
      intro o to v dp un gd cn cs ad ccd cl outer A₀ base h₀ L m rest s Q E H hS hd hret
      obtain ⟨B, F, X, N, T, hk, hdp, hu⟩ := H
      have s2 := hS _ (.tail _ (.tail _ (.head _)))
      have s3 := hS _ (.tail _ (.tail _ (.tail _ (.head _))))
      have s4 := hS _ (.tail _ (.tail _ (.tail _ (.tail _ (.head _)))))
      have s5 := hS _ (.tail _ (.tail _ (.tail _ (.tail _ (.tail _ (.head _))))))
      clear hS
      dsimp only [reelD] at N hret
      refine wpAny_call ?_
      k_dflt ((refine' code_nest ?k1_14 ?k2_14 ?k3_14 ?k4_14 ?k5_14 ?kA_14 ?kF_14 ?kK_14 ?k6_14 ?k7_14 ?k8_14 ?k9_14 ?kB_14 ?_ ?c2_14 ?c3_14 ?c4_14 ?c5_14; (case kA_14 => exact rfl); (case kF_14 => exact rfl); (case kK_14 => first | exact rfl | (first | with_reducible assumption | assumption)); (case k1_14 => k_asm); (case k2_14 => k_asm); (case k3_14 => k_asm); (case k4_14 => k_asm); (case k5_14 => k_asm); (case k6_14 => k_mem); (case k7_14 => exact codeRec_news (by k_asm) (by k_mem) (by (first | with_reducible assumption | assumption)) (by (first | with_reducible assumption | assumption))); (case k8_14 => ktr_room); (case k9_14 => exact BindsTo.of_eq rfl); (case c5_14 => decide); (case kB_14 => exact locs rfl); (case c2_14 => exact rfl); (case c3_14 => exact rfl); (case c4_14 => exact rfl); k_whole; intro g' L' h' FG' F' N' B' X' T'; (try dsimp only); (try k_lift B'); (try k_fold)))
      (repeat' (first | ((with_reducible refine Blk.into ?_); (first | ((with_reducible show wpAny _ _ (call (Value.ref _) _) _ _ _); k_dflt (refine' call_cls ?ks1_15 ?ks2_15 ?ks3_15 ?ks4_15 ?ks5_15 ?ks6_15 ?_; (case ks1_15 => k_asm); (case ks2_15 => k_asm); (case ks3_15 => k_asm); (case ks4_15 => k_is); (case ks5_15 => k_is); (case ks6_15 => k_is); k_whole; intro xq' dq' hq' Fq' Nq' lq1' lq2'; (try k_lt lq1'); (try k_lt2 lq2'); (try k_sweep); (refine' code_def ?k1_16 ?k2_16 ?k3_16 ?k4_16 ?k5_16 ?kA_16 ?kF_16 ?kK_16 ?k6_16 ?k7_16 ?k8_16 ?k9_16 ?kB_16 ?_ ?c2_16 ?c3_16 ?c4_16 ?c5_16; (case kA_16 => exact rfl); (case kF_16 => exact rfl); (case kK_16 => first | exact rfl | (first | with_reducible assumption | assumption)); (case k1_16 => k_asm); (case k2_16 => k_asm); (case k3_16 => k_asm); (case k4_16 => k_asm); (case k5_16 => k_asm); (case k6_16 => k_is); (case k7_16 => k_is); (case k8_16 => ktr_room); (case k9_16 => first | exact BindsTo.of_eq rfl | exact binds_K (by k_in) rfl (by k_is) rfl rfl rfl); (case c5_16 => decide); (case kB_16 => exact locs rfl); (case c2_16 => exact rfl); (case c3_16 => exact rfl); (case c4_16 => exact rfl); k_whole; intro g' L' h' FG' F' N' B' X' T'; (try dsimp only); (try k_lift B'); (try k_fold)))) | ((with_reducible show wpAny _ _ (binaryOp .Mod (Value.int _ _) (Value.int _ _)) _ _ _); (refine mod256 ?_); intro pt9 ept9) | ((with_reducible show wpAny _ _ (eval (Expr.ListComp _ _ _ _) _) _ _ _); k_dflt (refine Ns1.ListComp_S (F₀ := by k_asm) (by rfl) (by decide) (by rfl) (by decide) (by rfl) ?_)))) | (k_unfold; (try dsimp only)) | (k_end; wrow_close) | walk1 | (dsimp only; walk1) | (leave1; (try dsimp only))))
      exact hret _ _ (by k_asm) (by k_asm)
    case read =>
      intro o cnt to tc dp un gd cn cs ad ccd cl outer A₀ base h₀ L m rest s Q E H hS hd ho0 hc0 hc1 hoc hret
      obtain ⟨B, F, X, N, T, hk, hdp, hu⟩ := H
      have s0 := hS _ (.head _)
      have s1 := hS _ (.tail _ (.head _))
      have s4 := hS _ (.tail _ (.tail _ (.tail _ (.tail _ (.head _)))))
      have s5 := hS _ (.tail _ (.tail _ (.tail _ (.tail _ (.tail _ (.head _))))))
      have s6 := hS _ (.tail _ (.tail _ (.tail _ (.tail _ (.tail _ (.tail _ (.head _)))))))
      have s7 := hS _ (.tail _ (.tail _ (.tail _ (.tail _ (.tail _ (.tail _ (.tail _ (.head _))))))))
      clear hS
      dsimp only [reelD] at N hret
      refine wpAny_call ?_
      k_dflt ((refine' Ns1.code_nestC ?k1_17 ?k2_17 ?k3_17 ?k4_17 ?k5_17 ?kA_17 ?kF_17 ?kK_17 ?k6_17 ?k7_17 ?k8_17 ?k9_17 ?kB_17 ?kD_17 ?_ ?c2_17 ?c3_17 ?c4_17; (case kA_17 => exact rfl); (case kF_17 => exact rfl); (case kK_17 => (first | with_reducible assumption | assumption)); (case k1_17 => k_asm); (case k2_17 => k_asm); (case k3_17 => k_asm); (case k4_17 => k_asm); (case k5_17 => k_asm); (case k6_17 => k_mem); (case k7_17 => exact codeRec_news (by k_asm) (by k_mem) (by (first | with_reducible assumption | assumption)) (by (first | with_reducible assumption | assumption))); (case k8_17 => ktr_room); (case k9_17 => exact BindsTo.of_eq rfl); (case kB_17 => exact rfl); (case kD_17 => decide +kernel); (case c2_17 => exact rfl); (case c3_17 => exact rfl); (case c4_17 => exact rfl); k_whole; intro g' L' h' tk' cells' FG' F' N' Y' B' X' T' lc9'; (try k_lt lc9'); (try simp only [List.cons_append, List.nil_append] at N'); (try dsimp only); (try k_lift B'); (try k_fold)))
      rename CellsAre _ _ _ => Y
      obtain ⟨oq, hE, dq⟩ := Y.one
      subst hE
      clear Y
      rename News _ _ _ _ => N'
      simp only [List.cons_append, List.nil_append] at N'
      (repeat' (first | ((with_reducible refine Blk.into ?_); (first | ((with_reducible show wpAny _ _ (call (Value.ref _) _) _ _ _); k_dflt (refine' call_cls ?ks1_18 ?ks2_18 ?ks3_18 ?ks4_18 ?ks5_18 ?ks6_18 ?_; (case ks1_18 => k_asm); (case ks2_18 => k_asm); (case ks3_18 => k_asm); (case ks4_18 => k_is); (case ks5_18 => k_is); (case ks6_18 => k_is); k_whole; intro xq' dq' hq' Fq' Nq' lq1' lq2'; (try k_lt lq1'); (try k_lt2 lq2'); (try k_sweep); (refine' code_def ?k1_19 ?k2_19 ?k3_19 ?k4_19 ?k5_19 ?kA_19 ?kF_19 ?kK_19 ?k6_19 ?k7_19 ?k8_19 ?k9_19 ?kB_19 ?_ ?c2_19 ?c3_19 ?c4_19 ?c5_19; (case kA_19 => exact rfl); (case kF_19 => exact rfl); (case kK_19 => first | exact rfl | (first | with_reducible assumption | assumption)); (case k1_19 => k_asm); (case k2_19 => k_asm); (case k3_19 => k_asm); (case k4_19 => k_asm); (case k5_19 => k_asm); (case k6_19 => k_is); (case k7_19 => k_is); (case k8_19 => ktr_room); (case k9_19 => first | exact BindsTo.of_eq rfl | exact binds_K (by k_in) rfl (by k_is) rfl rfl rfl); (case c5_19 => decide); (case kB_19 => exact locs rfl); (case c2_19 => exact rfl); (case c3_19 => exact rfl); (case c4_19 => exact rfl); k_whole; intro g' L' h' FG' F' N' B' X' T'; (try dsimp only); (try k_lift B'); (try k_fold)))) | ((with_reducible show wpAny _ _ (binaryOp .Mod (Value.int _ _) (Value.int _ _)) _ _ _); (refine mod256 ?_); intro pt9 ept9) | ((with_reducible show wpAny _ _ (eval (Expr.ListComp _ _ _ _) _) _ _ _); k_dflt (refine Ns1.ListComp_S (F₀ := by k_asm) (by rfl) (by decide) (by rfl) (by decide) (by rfl) ?_)))) | (k_unfold; (try dsimp only)) | (k_end; wrow_close) | walk1 | (dsimp only; walk1) | (leave1; (try dsimp only))))
      rename IsRange _ _ _ _ _ _ _ _ => hR
      rename Fr _ _ _ _ => F2
      rename News _ _ _ _ => N2
      refine ⟨_, _, _, _, _, _, _, _, _, rfl, rfl, F2, N2, hR, small_down (by omega) (by omega) (by omega) (by omega), rangeSize_downNat _ _, (by rw [sizeLine_eq]; omega), ?_⟩
      rintro s2 ⟨hh, rfl⟩
      refine Cp.plain_all (fun i ys => IntsAre ys ((List.range i).map fun (j : Nat) => Builtin.bitAnd (pt9.fdiv (2 ^ (8 * (cnt - 1 + (j : Int) * -1)).toNat)) 255)) ?_ ?_ _ 0 [] (Nat.add_zero _) .nil
      · intro i ys hi hj v I oI C oC D m₂ h tk E' hv hC hx F' N' off' ne'
        obtain ⟨tv, rfl⟩ := hv
        have hi1 : (i : Int) < cnt := by omega
        (repeat' (first | ((with_reducible refine Blk.into ?_); (first | ((with_reducible show wpAny _ _ (call (Value.ref _) _) _ _ _); k_dflt (refine' call_cls ?ks1_20 ?ks2_20 ?ks3_20 ?ks4_20 ?ks5_20 ?ks6_20 ?_; (case ks1_20 => k_asm); (case ks2_20 => k_asm); (case ks3_20 => k_asm); (case ks4_20 => k_is); (case ks5_20 => k_is); (case ks6_20 => k_is); k_whole; intro xq' dq' hq' Fq' Nq' lq1' lq2'; (try k_lt lq1'); (try k_lt2 lq2'); (try k_sweep); (refine' code_def ?k1_21 ?k2_21 ?k3_21 ?k4_21 ?k5_21 ?kA_21 ?kF_21 ?kK_21 ?k6_21 ?k7_21 ?k8_21 ?k9_21 ?kB_21 ?_ ?c2_21 ?c3_21 ?c4_21 ?c5_21; (case kA_21 => exact rfl); (case kF_21 => exact rfl); (case kK_21 => first | exact rfl | (first | with_reducible assumption | assumption)); (case k1_21 => k_asm); (case k2_21 => k_asm); (case k3_21 => k_asm); (case k4_21 => k_asm); (case k5_21 => k_asm); (case k6_21 => k_is); (case k7_21 => k_is); (case k8_21 => ktr_room); (case k9_21 => first | exact BindsTo.of_eq rfl | exact binds_K (by k_in) rfl (by k_is) rfl rfl rfl); (case c5_21 => decide); (case kB_21 => exact locs rfl); (case c2_21 => exact rfl); (case c3_21 => exact rfl); (case c4_21 => exact rfl); k_whole; intro g' L' h' FG' F' N' B' X' T'; (try dsimp only); (try k_lift B'); (try k_fold)))) | ((with_reducible show wpAny _ _ (binaryOp .Mod (Value.int _ _) (Value.int _ _)) _ _ _); (refine mod256 ?_); intro pt9 ept9) | ((with_reducible show wpAny _ _ (eval (Expr.ListComp _ _ _ _) _) _ _ _); k_dflt (refine Ns1.ListComp_S (F₀ := by k_asm) (by rfl) (by decide) (by rfl) (by decide) (by rfl) ?_)))) | (k_unfold; (try dsimp only)) | (k_end; wrow_close) | walk1 | (dsimp only; walk1) | (leave1; (try dsimp only))))
        exact LCg.CompEnd.intro (by k_asm) (by k_asm) _ (fun p hp => hp) off' True.intro ⟨rfl, ints_snoc2 hj rfl⟩
      · intro ys hj
        unfold LCg.FinE
        intro D h' tk' F' N' o1'
        simp only [LCg.Off1] at o1'
        (repeat' (first | ((with_reducible refine Blk.into ?_); (first | ((with_reducible show wpAny _ _ (call (Value.ref _) _) _ _ _); k_dflt (refine' call_cls ?ks1_22 ?ks2_22 ?ks3_22 ?ks4_22 ?ks5_22 ?ks6_22 ?_; (case ks1_22 => k_asm); (case ks2_22 => k_asm); (case ks3_22 => k_asm); (case ks4_22 => k_is); (case ks5_22 => k_is); (case ks6_22 => k_is); k_whole; intro xq' dq' hq' Fq' Nq' lq1' lq2'; (try k_lt lq1'); (try k_lt2 lq2'); (try k_sweep); (refine' code_def ?k1_23 ?k2_23 ?k3_23 ?k4_23 ?k5_23 ?kA_23 ?kF_23 ?kK_23 ?k6_23 ?k7_23 ?k8_23 ?k9_23 ?kB_23 ?_ ?c2_23 ?c3_23 ?c4_23 ?c5_23; (case kA_23 => exact rfl); (case kF_23 => exact rfl); (case kK_23 => first | exact rfl | (first | with_reducible assumption | assumption)); (case k1_23 => k_asm); (case k2_23 => k_asm); (case k3_23 => k_asm); (case k4_23 => k_asm); (case k5_23 => k_asm); (case k6_23 => k_is); (case k7_23 => k_is); (case k8_23 => ktr_room); (case k9_23 => first | exact BindsTo.of_eq rfl | exact binds_K (by k_in) rfl (by k_is) rfl rfl rfl); (case c5_23 => decide); (case kB_23 => exact locs rfl); (case c2_23 => exact rfl); (case c3_23 => exact rfl); (case c4_23 => exact rfl); k_whole; intro g' L' h' FG' F' N' B' X' T'; (try dsimp only); (try k_lift B'); (try k_fold)))) | ((with_reducible show wpAny _ _ (binaryOp .Mod (Value.int _ _) (Value.int _ _)) _ _ _); (refine mod256 ?_); intro pt9 ept9) | ((with_reducible show wpAny _ _ (eval (Expr.ListComp _ _ _ _) _) _ _ _); k_dflt (refine Ns1.ListComp_S (F₀ := by k_asm) (by rfl) (by decide) (by rfl) (by decide) (by rfl) ?_)))) | (k_unfold; (try dsimp only)) | (k_end; wrow_close) | walk1 | (dsimp only; walk1) | (leave1; (try dsimp only))))
        refine Blk.into ?_
        k_dflt (refine' KBa.make_K ?kbaF ?kbaN ?kbah ?kbal ?kbai ?kbar ?kban ?_)
        case kbaF => k_asm
        case kbaN => k_asm
        case kbah => rfl
        case kbal => kba_isList
        case kbai => assumption
        case kbar => exact in_and255r _ _
        case kban => simp only [List.length_map, List.length_range]; omega
        intro _ _ _ F' N' kbaIn
        (repeat' (first | ((with_reducible refine Blk.into ?_); (first | ((with_reducible show wpAny _ _ (call (Value.ref _) _) _ _ _); k_dflt (refine' call_cls ?ks1_24 ?ks2_24 ?ks3_24 ?ks4_24 ?ks5_24 ?ks6_24 ?_; (case ks1_24 => k_asm); (case ks2_24 => k_asm); (case ks3_24 => k_asm); (case ks4_24 => k_is); (case ks5_24 => k_is); (case ks6_24 => k_is); k_whole; intro xq' dq' hq' Fq' Nq' lq1' lq2'; (try k_lt lq1'); (try k_lt2 lq2'); (try k_sweep); (refine' code_def ?k1_25 ?k2_25 ?k3_25 ?k4_25 ?k5_25 ?kA_25 ?kF_25 ?kK_25 ?k6_25 ?k7_25 ?k8_25 ?k9_25 ?kB_25 ?_ ?c2_25 ?c3_25 ?c4_25 ?c5_25; (case kA_25 => exact rfl); (case kF_25 => exact rfl); (case kK_25 => first | exact rfl | (first | with_reducible assumption | assumption)); (case k1_25 => k_asm); (case k2_25 => k_asm); (case k3_25 => k_asm); (case k4_25 => k_asm); (case k5_25 => k_asm); (case k6_25 => k_is); (case k7_25 => k_is); (case k8_25 => ktr_room); (case k9_25 => first | exact BindsTo.of_eq rfl | exact binds_K (by k_in) rfl (by k_is) rfl rfl rfl); (case c5_25 => decide); (case kB_25 => exact locs rfl); (case c2_25 => exact rfl); (case c3_25 => exact rfl); (case c4_25 => exact rfl); k_whole; intro g' L' h' FG' F' N' B' X' T'; (try dsimp only); (try k_lift B'); (try k_fold)))) | ((with_reducible show wpAny _ _ (binaryOp .Mod (Value.int _ _) (Value.int _ _)) _ _ _); (refine mod256 ?_); intro pt9 ept9) | ((with_reducible show wpAny _ _ (eval (Expr.ListComp _ _ _ _) _) _ _ _); k_dflt (refine Ns1.ListComp_S (F₀ := by k_asm) (by rfl) (by decide) (by rfl) (by decide) (by rfl) ?_)))) | (k_unfold; (try dsimp only)) | (k_end; wrow_close) | walk1 | (dsimp only; walk1) | (leave1; (try dsimp only))))
        rw [show (cnt - 1 - -1).toNat = cnt.toNat by omega, read_bytes ho0 hc0 hoc ?_ ept9]
        · exact hret _ _ _ _ (by k_asm) (by ((rename News _ _ _ _ => dN); exact cb_drop dN fun q hq => by (repeat (first | exact hq | refine List.Mem.tail _ ?_))))
        · split <;> omega
    case fn1 =>
      intro h₀ h L news N hS
      exact FnAt.of N (hS _ (.tail _ (.tail _ (.head _))))
    case fn2 =>
      intro h₀ h L news N hS
      exact FnAt.of N (hS _ (.head _))
/-- the code table: empty, or filled by a reel made before -/
def TabOk (tb : Array Value) (news : List (Addr × Obj)) : Prop := tb = #[] ∨ ∃ c1 c2, tb = hitTb c1 c2 ∧ TabHit news c1 c2
theorem tabOk_mono {tb : Array Value} {news news' : List (Addr × Obj)} (h : TabOk tb news) (hs : ∀ q ∈ news, q ∈ news') : TabOk tb news' := by
  rcases h with h | ⟨c1, c2, h, oc1, oc2, v1, v2, t1, t2, m1, m2, r1, r2, r3, r4⟩
  · exact .inl h
  · exact .inr ⟨c1, c2, h, oc1, oc2, v1, v2, t1, t2, hs _ m1, hs _ m2, r1, r2, r3, r4⟩
theorem reel_any {dp un : Nat} {gd : Option (List Code)} {cn : Str} {cs : Scope} {ad : Addr} {ccd : Value} {cl : List (Str × Addr)} {outer : List Env} {A₀ : Around} {base h₀ : Heap} {L : Addr} {m : Str → Option Value} {old news : List (Addr × Obj)} {s : Shared} {Q E : Value → Shared → Prop} {PB : List UInt8} {t1 t2 : Tok} {tb : Array Value}
    (hz : PB.length ≤ 100000) (C : CodeHd base 143 139) (hn : ∀ p ∈ news, p.1 ≠ 139) (hold : ∀ q ∈ old, q ∈ news) (htb : TabOk tb old) (H : Here w p loose mean mg mb 10 dp un cs outer A₀ base h₀ L m ((139, tabObj tb) :: news) s.heap)
    (hret : ∀ (k1 k2 : Addr) (x dx fs fr : Addr) (td : Value → Obj) (S : List (Addr × Obj)) h' tk' t0,
      Fr h₀ L h' m → News h₀ L h' ((139, tabObj (hitTb k1 k2)) :: (dx, td (.int 0 t0)) :: (S ++ news)) → (∀ q ∈ S, @Ne Nat q.1 dx ∧ @Ne Nat q.1 139 ∧ (q ∈ old ∨ ∀ r ∈ news, @Ne Nat q.1 r.1)) → (∀ r ∈ news, @Ne Nat r.1 dx) → @Ne Nat 139 dx → TabHit S k1 k2 →
      SeekK prog w p loose mean mg mb dx fs td S → ReadK prog w p loose mean mg mb dx fr td S PB → GetK prog w x dx fs "seek" td S → GetK prog w x dx fr "read" td S → FnK fs S → FnK fr S → Q (.ref x) { s with heap := h', toks := tk' }) :
    wpAny (model prog w) (ktrTop dp un gd cn cs L ad ccd cl outer) (call (.ref 144) [.int (beN PB) t1, .int PB.length t2]) Q E s := by
  obtain ⟨pS, pR, bS, bR, sS, sR, sc, oS, oR, _, _, cold, hit, parts⟩ := @reel_objs prog w p loose mean mg mb
  have fin : ReelRet w oS oR (beN PB) PB.length old news h₀ L m s Q := by
    intro l f1 f2 c1 c2 x dx oc1 oc2 k1 k2 k3 v1 v2 d1 d2 ct1 ct2 u1 u2 u3 u4 t0 tp tz tt1 tt2 h' tk' F' N' e1 e2 e3 g1 g2 g3 g4 l0 lA l1 l2 l3 l4 o1 o2
    obtain ⟨pa, pb, pc, pd⟩ := parts (l := l) (c1 := c1) (c2 := c2) (f1 := f1) (f2 := f2) (x := x) (dx := dx) (oc1 := oc1) (oc2 := oc2) (d1 := d1) (d2 := d2) (ct1 := ct1) (ct2 := ct2) (u1 := u1) (u2 := u2) (u3 := u3) (u4 := u4) (PB := PB) C e1 e2 e3 g1 g2 g3 g4 hz
    have fr : ∀ (q : Addr × Obj), @LT.lt Nat instLTNat l q.1 → @Ne Nat q.1 139 ∧ (q ∈ old ∨ ∀ r ∈ news, @Ne Nat q.1 r.1) := fun q h => ⟨Nat.ne_of_gt (Nat.lt_trans l0 h), .inr fun r hr e => absurd (allLt_mem lA r hr) (by rw [e] at h; exact Nat.lt_asymm h)⟩
    have fo : ∀ (c : Addr) (oc : Obj), ((c, oc) ∈ old ∨ @LT.lt Nat instLTNat dx c) → @Ne Nat c dx ∧ @Ne Nat c 139 ∧ ((c, oc) ∈ old ∨ ∀ r ∈ news, @Ne Nat c r.1) := fun c oc h => by
      rcases h with h | h
      · have := ltN (allLt_mem lA _ (hold _ h))
        dsimp only at this
        exact ⟨by omega, hn _ (hold _ h), .inl h⟩
      · exact ⟨by omega, fr (c, oc) (by dsimp only; omega)⟩
    refine hret c1 c2 x dx f1 f2 (reelD w u1 u2 u3 u4 f1 f2) (reelS oS oR l f1 f2 c1 c2 x dx oc1 oc2 k1 k2 k3 d1 d2 ct1 ct2) h' tk' t0 F' (cb_drop N' fun q hq => ?_) ?_ (fun r hr e => ?_) (by omega) ⟨oc1, oc2, v1, v2, tt1, tt2, .tail _ (.tail _ (.tail _ (.head _))), .tail _ (.head _), g1, g2, g3, g4⟩ pa pb get_seek get_read pc pd
    · simp only [reelS, List.cons_append, List.nil_append, List.mem_cons] at hq ⊢
      rcases hq with h | h | h | h | h | h | h | h | h | h | h <;> simp only [h, true_or, or_true]
    · have a1 := fr (f2, oR l d2 c2 ct2) (by dsimp only; omega)
      have a2 := fr (f1, oS l d1 c1 ct1) (by dsimp only; omega)
      have a3 := fr (x, instObj 107 dx) (by dsimp only; omega)
      have a4 := fr (l + 1 + 1 + 1, k3) (by dsimp only; omega)
      have a5 := fr (l + 1 + 1, k2) (by dsimp only; omega)
      have a6 := fr (l + 1, k1) (by dsimp only; omega)
      exact List.forall_mem_cons.mpr ⟨⟨by dsimp only; omega, a1⟩, List.forall_mem_cons.mpr ⟨fo _ _ o2, List.forall_mem_cons.mpr ⟨⟨by dsimp only; omega, a2⟩, List.forall_mem_cons.mpr ⟨fo _ _ o1, List.forall_mem_cons.mpr ⟨⟨by dsimp only; omega, a3⟩, List.forall_mem_cons.mpr ⟨⟨by dsimp only; omega, a4⟩, List.forall_mem_cons.mpr ⟨⟨by dsimp only; omega, a5⟩, List.forall_mem_cons.mpr ⟨⟨by dsimp only; omega, a6⟩, List.forall_mem_nil _⟩⟩⟩⟩⟩⟩⟩⟩
    · have := ltN (allLt_mem lA r hr)
      have e' : (r.1 : Nat) = dx := e
      omega
  rcases htb with rfl | ⟨c1, c2, rfl, hh⟩
  · exact cold C hn H fin
  · exact hit C hn H hold hh fin
end
end Mine02
end
namespace Mine02
theorem rest12 : True ∧ True := by w_top off; first | (walk1; all_goals trivial) | exact ⟨trivial, trivial⟩
end Mine02

section
namespace Unp
open Builtin Builtin.Struct
/-- the number that bytes tell, lowest first -/
def leN (l : List UInt8) : Nat := l.foldr (fun c n => n * 256 + c.toNat) 0
theorem natOf_ext (data : List UInt8) (i j : Nat) : natOf false (data.toArray.extract i j) = leN ((data.drop i).take (j - i)) := by
  unfold natOf Memoryview.littleEndian leN
  rw [if_neg (by decide)]
  rw [← Array.foldr_toList]
  simp [List.extract_eq_take_drop]
theorem kind_u : builtinKind "_struct.unpack" = none := by decide +kernel
theorem plain_u : plainId "_struct.unpack" = true := by decide +kernel
theorem entry_u : entryFor table "_struct.unpack" = some Builtin.«_struct.unpack» := entryFor_of_tree (by kernel_rfl)
theorem args_u (a b : Value) : argsOk "_struct.unpack" ⟨[a, b], []⟩ := by unfold argsOk; kernel_rfl
def fLoc : Format := ⟨false, false, [⟨'s', 4, 0, 1⟩, ⟨'L', 1, 4, 4⟩, ⟨'Q', 1, 8, 8⟩, ⟨'L', 1, 16, 4⟩], 20, 4⟩
def fRec : Format := ⟨false, false, [⟨'s', 4, 0, 1⟩, ⟨'Q', 1, 4, 8⟩, ⟨'H', 2, 12, 2⟩, ⟨'L', 2, 16, 4⟩, ⟨'Q', 4, 24, 8⟩], 56, 10⟩
theorem mf_loc (t : Tok) : moduleFormat (.str (PySem.Str.ofString "<4sLQL") t) = pure fLoc := by kernel_rfl
theorem mf_rec (t : Tok) : moduleFormat (.str (PySem.Str.ofString "<4sQ2H2L4Q") t) = pure fRec := by kernel_rfl
section
variable {c0 c1 c2 c3 : UInt8} {r : List UInt8}
theorem ext4 : ((c0 :: c1 :: c2 :: c3 :: r).toArray.extract (0+0) (0+0+4)) = #[c0, c1, c2, c3] := by simp
theorem un_loc (id : String) : unpacked id fLoc (c0 :: c1 :: c2 :: c3 :: r).toArray 0 =
    (mkBytes #[c0, c1, c2, c3] >>= fun v0 => mkInt (natOf false ((c0 :: c1 :: c2 :: c3 :: r).toArray.extract 4 8) : Nat) >>= fun v1 => mkInt (natOf false ((c0 :: c1 :: c2 :: c3 :: r).toArray.extract 8 16) : Nat) >>= fun v2 =>
      mkInt (natOf false ((c0 :: c1 :: c2 :: c3 :: r).toArray.extract 16 20) : Nat) >>= fun v3 => newTuple [v0, v1, v2, v3]) := by
  unfold Struct.unpacked fLoc
  dsimp -failIfUnchanged only
  rw [List.forIn_cons]
  dsimp only
  rw [ext4]
  kernel_rfl
theorem un_rec (id : String) : unpacked id fRec (c0 :: c1 :: c2 :: c3 :: r).toArray 0 =
    (mkBytes #[c0, c1, c2, c3] >>= fun v0 => mkInt (natOf false ((c0 :: c1 :: c2 :: c3 :: r).toArray.extract 4 12) : Nat) >>= fun v1 => 
      mkInt (natOf false ((c0 :: c1 :: c2 :: c3 :: r).toArray.extract 12 14) : Nat) >>= fun v2 =>
      mkInt (natOf false ((c0 :: c1 :: c2 :: c3 :: r).toArray.extract 14 16) : Nat) >>= fun v3 => 
      mkInt (natOf false ((c0 :: c1 :: c2 :: c3 :: r).toArray.extract 16 20) : Nat) >>= fun v4 => 
      mkInt (natOf false ((c0 :: c1 :: c2 :: c3 :: r).toArray.extract 20 24) : Nat) >>= fun v5 => 
      mkInt (natOf false ((c0 :: c1 :: c2 :: c3 :: r).toArray.extract 24 32) : Nat) >>= fun v6 => 
      mkInt (natOf false ((c0 :: c1 :: c2 :: c3 :: r).toArray.extract 32 40) : Nat) >>= fun v7 => 
      mkInt (natOf false ((c0 :: c1 :: c2 :: c3 :: r).toArray.extract 40 48) : Nat) >>= fun v8 => 
      mkInt (natOf false ((c0 :: c1 :: c2 :: c3 :: r).toArray.extract 48 56) : Nat) >>= fun v9 => newTuple [v0, v1, v2, v3, v4, v5, v6, v7, v8, v9]) := by
  unfold Struct.unpacked fRec
  dsimp -failIfUnchanged only
  rw [List.forIn_cons]
  dsimp only
  rw [ext4]
  kernel_rfl
end
theorem four {d : List UInt8} {n : Nat} (h : d.length = n + 4) : ∃ c0 c1 c2 c3 r, d = c0 :: c1 :: c2 :: c3 :: r := by
  match d, h with
  | c0 :: c1 :: c2 :: c3 :: r, _ => exact ⟨c0, c1, c2, c3, r, rfl⟩
def sl (d : List UInt8) (i j : Nat) : Int := (leN ((d.drop i).take (j - i)) : Nat)
theorem body_eq {fs : PySem.Str} {t u : Tok} {b : Array UInt8} {f : Format} (hf : moduleFormat (.str fs t) = pure f) :
    Builtin.«_struct.unpack» ⟨[.str fs t, .bytes b u], []⟩ = unpackExact "_struct.unpack" (pure f) (.bytes b u) := by
  have : Builtin.«_struct.unpack» ⟨[.str fs t, .bytes b u], []⟩ = (moduleFormat (.str fs t) >>= fun f => unpackExact "_struct.unpack" (pure f) (.bytes b u)) := by kernel_rfl
  rw [this, hf]
  rfl
theorem exact_at {M : Model} {A : Around} {E : Value → Shared → Prop} {s : Shared} {f : Format} {b : Array UInt8} {u : Tok} {Q : Fin → Shared → Prop} (hs : b.size = f.size)
    (h : wpAny M A (Struct.unpacked "_struct.unpack" f b 0) (fun v s => Q (.done (.ret v)) s) E s) : wpAny M A (unpackExact "_struct.unpack" (pure f) (.bytes b u)) Q E s := by
  unfold unpackExact
  rw [KBd.like_eq]
  refine wpAny_bind (wpAny_pure ?_)
  refine wpAny_bind (wpAny_pure ?_)
  refine KFB.if_not (by rw [hs]; exact bne_self_eq_false _) ?_
  refine wpAny_bind (wpAny_mono h (fun v s h => wpAny_pure h) fun _ _ h => h)
section
variable {prog : Program} {w : World} {A : Around} {E : Value → Shared → Prop} {s : Shared} {h₀ : Heap} {L : Addr} {m : PySem.Str → Option Value} {news : List (Addr × Obj)} {Q : Value → Shared → Prop}
theorem unpack_loc {data : List UInt8} {t u : Tok} (hl : data.length = 20) (F : Fr h₀ L s.heap m) (N : News h₀ L s.heap news)
    (h : ∀ D t0 t1 t2 t3 c h' tk, Fr h₀ L h' m → News h₀ L h' ((D, ({ cls := .type "tuple", data := .seq #[.bytes (data.take 4).toArray t0, .int (sl data 4 8) t1, .int (sl data 8 16) t2, .int (sl data 16 20) t3] c } : Obj)) :: news) → (∀ p ∈ news, p.1 < D) → Q (.ref D) { s with heap := h', toks := tk }) :
    wpAny (model prog w) A (call (.builtin "_struct.unpack") [.str (PySem.Str.ofString "<4sLQL") t, .bytes data.toArray u]) Q E s := by
  obtain ⟨c0, c1, c2, c3, r, rfl⟩ := four (n := 16) hl
  have g : Meets (Builtin.«_struct.unpack» ⟨[.str (PySem.Str.ofString "<4sLQL") t, .bytes (c0 :: c1 :: c2 :: c3 :: r).toArray u], []⟩) (fun A R s =>
      R (.ok (.ret (.ref s.heap.objs.size))) { s with toks := s.toks + 1 + 1 + 1 + 1, heap := s.heap.push { cls := .type "tuple", data := .seq #[.bytes #[c0, c1, c2, c3] s.toks, .int (sl (c0 :: c1 :: c2 :: c3 :: r) 4 8) (s.toks + 1), .int (sl (c0 :: c1 :: c2 :: c3 :: r) 8 16) (s.toks + 1 + 1), .int (sl (c0 :: c1 :: c2 :: c3 :: r) 16 20) (s.toks + 1 + 1 + 1)] } }) := by
    refine .of_wp fun prog w A R s hS => ?_
    rw [body_eq (mf_loc t)]
    refine exact_at (by show List.length _ = _; exact hl) ?_
    rw [un_loc]
    refine wpAny_bind (wpAny_mkBytes ?_ (by show 4 ≤ sizeLine; decide))
    refine wpAny_bind (wpAny_mkInt ?_)
    refine wpAny_bind (wpAny_mkInt ?_)
    refine wpAny_bind (wpAny_mkInt ?_)
    refine wpAny_newObj_type ?_ (by show 4 ≤ sizeLine; decide)
    rw [natOf_ext, natOf_ext, natOf_ext]
    exact ⟨_, rfl, hS⟩
  refine call_function_meets kind_u plain_u entry_u (args_u _ _) g ?_
  exact h _ _ _ _ _ _ _ _ (F.push _) (N.push F _) fun p hp => Heap.lt_size (N p hp).1
theorem unpack_rec {data : List UInt8} {t u : Tok} (hl : data.length = 56) (F : Fr h₀ L s.heap m) (N : News h₀ L s.heap news)
    (h : ∀ D t0 t1 t2 t3 t4 t5 t6 t7 t8 t9 c h' tk, Fr h₀ L h' m → News h₀ L h' ((D, ({ cls := .type "tuple", data := .seq #[.bytes (data.take 4).toArray t0, .int (sl data 4 12) t1, .int (sl data 12 14) t2, .int (sl data 14 16) t3,
        .int (sl data 16 20) t4, .int (sl data 20 24) t5, .int (sl data 24 32) t6, .int (sl data 32 40) t7, .int (sl data 40 48) t8, .int (sl data 48 56) t9] c } : Obj)) :: news) → (∀ p ∈ news, p.1 < D) → Q (.ref D) { s with heap := h', toks := tk }) :
    wpAny (model prog w) A (call (.builtin "_struct.unpack") [.str (PySem.Str.ofString "<4sQ2H2L4Q") t, .bytes data.toArray u]) Q E s := by
  obtain ⟨c0, c1, c2, c3, r, rfl⟩ := four (n := 52) hl
  have g : Meets (Builtin.«_struct.unpack» ⟨[.str (PySem.Str.ofString "<4sQ2H2L4Q") t, .bytes (c0 :: c1 :: c2 :: c3 :: r).toArray u], []⟩) (fun A R s =>
      R (.ok (.ret (.ref s.heap.objs.size))) { s with toks := s.toks + 1 + 1 + 1 + 1 + 1 + 1 + 1 + 1 + 1 + 1, heap := s.heap.push { cls := .type "tuple", data := .seq #[.bytes #[c0, c1, c2, c3] s.toks, .int (sl (c0 :: c1 :: c2 :: c3 :: r) 4 12) (s.toks + 1), .int (sl (c0 :: c1 :: c2 :: c3 :: r) 12 14) (s.toks + 1 + 1),
        .int (sl (c0 :: c1 :: c2 :: c3 :: r) 14 16) (s.toks + 1 + 1 + 1), .int (sl (c0 :: c1 :: c2 :: c3 :: r) 16 20) (s.toks + 1 + 1 + 1 + 1), .int (sl (c0 :: c1 :: c2 :: c3 :: r) 20 24) (s.toks + 1 + 1 + 1 + 1 + 1), .int (sl (c0 :: c1 :: c2 :: c3 :: r) 24 32) (s.toks + 1 + 1 + 1 + 1 + 1 + 1),
        .int (sl (c0 :: c1 :: c2 :: c3 :: r) 32 40) (s.toks + 1 + 1 + 1 + 1 + 1 + 1 + 1), .int (sl (c0 :: c1 :: c2 :: c3 :: r) 40 48) (s.toks + 1 + 1 + 1 + 1 + 1 + 1 + 1 + 1), .int (sl (c0 :: c1 :: c2 :: c3 :: r) 48 56) (s.toks + 1 + 1 + 1 + 1 + 1 + 1 + 1 + 1 + 1)] } }) := by
    refine .of_wp fun prog w A R s hS => ?_
    rw [body_eq (mf_rec t)]
    refine exact_at (by show List.length _ = _; exact hl) ?_
    rw [un_rec]
    refine wpAny_bind (wpAny_mkBytes ?_ (by show 4 ≤ sizeLine; decide))
    iterate 9 (refine wpAny_bind (wpAny_mkInt ?_); dsimp only)
    refine wpAny_newObj_type ?_ (by show 10 ≤ sizeLine; decide)
    simp only [natOf_ext]
    exact ⟨_, rfl, hS⟩
  refine call_function_meets kind_u plain_u entry_u (args_u _ _) g ?_
  exact h _ _ _ _ _ _ _ _ _ _ _ _ _ _ (F.push _) (N.push F _) fun p hp => Heap.lt_size (N p hp).1
end
def win (n : Nat) : Int × Int := Bytes.window n none none
theorem win_eq (n : Nat) : win n = (0, (n : Int)) := by
  unfold win Bytes.window
  dsimp only [Option.getD]
  rw [if_neg (by omega), if_neg (by omega)]
  congr 1
  exact Int.min_self _
def fits4 (b c : Array UInt8) : Bool := if (win b.size).2 - (win b.size).1 < (c.size : Int) then false else b.extract (win b.size).1.toNat ((win b.size).1.toNat + c.size) == c
theorem starts_at {M : Model} {A : Around} {E : Value → Shared → Prop} {s : Shared} {b c : Array UInt8} {t u : Tok} {Q : Fin → Shared → Prop} (h : Q (.done (.ret (.bool (fits4 b c)))) s) :
    wpAny M A (Builtin.«bytes.startswith» ⟨[.bytes b t, .bytes c u], []⟩) Q E s := by
  have e : Builtin.«bytes.startswith» ⟨[.bytes b t, .bytes c u], []⟩ = (Bytes.buffer? "bytes.startswith" (.bytes c u) >>= fun o => match o with
      | some sub => ret (.bool (fits4 b sub))
      | none => do rule s!"{"bytes.startswith"}.bad-type"; raiseError "TypeError" s!"{"startswith"} first arg must be bytes or a tuple of bytes, not {← typeNameOf (.bytes c u)}") := by kernel_rfl
  rw [e]
  refine wpAny_bind (wpAny_of_eq (a := some c) KBy.buffer_eq ?_)
  exact wpAny_pure h
theorem gives_starts (b c : Array UInt8) (t u : Tok) : Gives (Builtin.«bytes.startswith» ⟨[.bytes b t, .bytes c u], []⟩) (.val (.bool (fits4 b c))) := by
  refine .of_wp fun M A E s Q hq => ?_
  exact starts_at ⟨_, rfl, hq⟩
theorem fits4_eq {d c : List UInt8} (h : c.length ≤ d.length) : fits4 d.toArray c.toArray = (d.take c.length == c) := by
  unfold fits4
  rw [win_eq]
  rw [if_neg (by show ¬ ((d.length : Int) - 0 < (c.length : Int)); omega)]
  show (d.toArray.extract 0 (0 + c.length) == c.toArray) = _
  simp
theorem starts_call {prog : Program} {w : World} {A : Around} {E : Value → Shared → Prop} {s : Shared} {d c : List UInt8} {t u : Tok} {Q : Value → Shared → Prop} (hc : c.length ≤ d.length) (h : Q (.bool (d.take c.length == c)) s) :
    wpAny (model prog w) A (call (.builtin "bytes.startswith") [.bytes d.toArray t, .bytes c.toArray u]) Q E s :=
  call_gives FB.slot_bytes_startswith (typeIs_bytes _ _ _) FB.entry_bytes_startswith (FB.args_bytes_startswith_2 _ _) (gives_starts _ _ _ _) (by rw [fits4_eq hc]; exact h)
theorem starts_method {M : Model} {A : Around} {E : Value → Shared → Prop} {s : Shared} {b : Array UInt8} {t : Tok} {pl : Sem Bool} {Q : Value × List Value → Shared → Prop} (h : Q (.builtin "bytes.startswith", [.bytes b t]) s) : wpAny M A (getMethod (.bytes b t) "startswith" pl) Q E s := by
  with_reducible exact KBd.method_of (.bytes b t) (typeIs_bytes _ _ _) FB.slot_bytes_startswith FB.type_bytes_startswith KBd.noRef h
end Unp
end
namespace Mine02
theorem rest13 : True ∧ True := by w_top off; first | (walk1; all_goals trivial) | exact ⟨trivial, trivial⟩
end Mine02

section
namespace Mine02
open DivM Lp Bm

section
variable {h₀ h : Heap} {L : Addr} {a b1 b2 b3 b4 b5 b6 b7 : Addr × Obj} {r : List (Addr × Obj)}
theorem rotg {l1 l2 : List (Addr × Obj)} (N : News h₀ L h (l1 ++ a :: l2)) : News h₀ L h (a :: (l1 ++ l2)) := cb_drop N fun q hq => by
  rcases List.mem_cons.mp hq with rfl | hq
  · exact List.mem_append_right _ (.head _)
  · rcases List.mem_append.mp hq with h | h
    · exact List.mem_append_left _ h
    · exact List.mem_append_right _ (.tail _ h)
theorem roqg {b : Addr × Obj} {l1 l2 : List (Addr × Obj)} (N : News h₀ L h (b :: (l1 ++ a :: l2))) : News h₀ L h (b :: a :: (l1 ++ l2)) := cb_drop N fun q hq => by
  rcases List.mem_cons.mp hq with rfl | hq
  · exact .head _
  · refine .tail _ ?_
    rcases List.mem_cons.mp hq with rfl | hq
    · exact List.mem_append_right _ (.head _)
    · rcases List.mem_append.mp hq with h | h
      · exact List.mem_append_left _ h
      · exact List.mem_append_right _ (.tail _ h)
theorem rot1 (N : News h₀ L h (b1 :: a :: r)) : News h₀ L h (a :: b1 :: r) := rotg (l1 := [b1]) N
theorem rot2 (N : News h₀ L h (b1 :: b2 :: a :: r)) : News h₀ L h (a :: b1 :: b2 :: r) := rotg (l1 := [b1, b2]) N
theorem rot3 (N : News h₀ L h (b1 :: b2 :: b3 :: a :: r)) : News h₀ L h (a :: b1 :: b2 :: b3 :: r) := rotg (l1 := [b1, b2, b3]) N
theorem rot4 (N : News h₀ L h (b1 :: b2 :: b3 :: b4 :: a :: r)) : News h₀ L h (a :: b1 :: b2 :: b3 :: b4 :: r) := rotg (l1 := [b1, b2, b3, b4]) N
theorem rot5 (N : News h₀ L h (b1 :: b2 :: b3 :: b4 :: b5 :: a :: r)) : News h₀ L h (a :: b1 :: b2 :: b3 :: b4 :: b5 :: r) := rotg (l1 := [b1, b2, b3, b4, b5]) N
theorem rot6 (N : News h₀ L h (b1 :: b2 :: b3 :: b4 :: b5 :: b6 :: a :: r)) : News h₀ L h (a :: b1 :: b2 :: b3 :: b4 :: b5 :: b6 :: r) := rotg (l1 := [b1, b2, b3, b4, b5, b6]) N
theorem roq1 (N : News h₀ L h (b7 :: b1 :: a :: r)) : News h₀ L h (b7 :: a :: b1 :: r) := roqg (l1 := [b1]) N
theorem roq2 (N : News h₀ L h (b7 :: b1 :: b2 :: a :: r)) : News h₀ L h (b7 :: a :: b1 :: b2 :: r) := roqg (l1 := [b1, b2]) N
theorem roq3 (N : News h₀ L h (b7 :: b1 :: b2 :: b3 :: a :: r)) : News h₀ L h (b7 :: a :: b1 :: b2 :: b3 :: r) := roqg (l1 := [b1, b2, b3]) N
theorem roq4 (N : News h₀ L h (b7 :: b1 :: b2 :: b3 :: b4 :: a :: r)) : News h₀ L h (b7 :: a :: b1 :: b2 :: b3 :: b4 :: r) := roqg (l1 := [b1, b2, b3, b4]) N
theorem roq5 (N : News h₀ L h (b7 :: b1 :: b2 :: b3 :: b4 :: b5 :: a :: r)) : News h₀ L h (b7 :: a :: b1 :: b2 :: b3 :: b4 :: b5 :: r) := roqg (l1 := [b1, b2, b3, b4, b5]) N
theorem roq6 (N : News h₀ L h (b7 :: b1 :: b2 :: b3 :: b4 :: b5 :: b6 :: a :: r)) : News h₀ L h (b7 :: a :: b1 :: b2 :: b3 :: b4 :: b5 :: b6 :: r) := roqg (l1 := [b1, b2, b3, b4, b5, b6]) N
end
theorem subT {α : Type} {S r : List α} {a : α} (h : ∀ q ∈ S, q ∈ r) : ∀ q ∈ S, q ∈ a :: r := fun q hq => .tail _ (h q hq)


/-- the bytes at a place -/
def cutB (PB : List UInt8) (o n : Int) : List UInt8 := (PB.drop o.toNat).take n.toNat
section
variable {prog : Program} {w : World} {p : Program} {loose : List Str} {mean : ExcName → Option Value} {mg mb : Str → Option Value} {dx fs fr x : Addr} {td : Value → Obj} {S : List (Addr × Obj)} {PB : List UInt8}
theorem get_use {f : Addr} {name : Str} (hg : GetK prog w x dx f name td S) {v : Value} {A : Around} {h₀ : Heap} {L : Addr} {m : Str → Option Value} {rest : List (Addr × Obj)} {s : Shared} {pl : Sem Bool} {Q : Value × List Value → Shared → Prop} {E : Value → Shared → Prop}
    (F : Fr h₀ L s.heap m) (X : (hd.heap_39 w.params).In h₀) (N : News h₀ L s.heap ((dx, td v) :: rest)) (hS : ∀ q ∈ S, q ∈ rest) (h : ∀ tk', Q (.ref f, []) { s with toks := tk' }) :
    wpAny (model prog w) A (getMethod (.ref x) name pl) Q E s := hg v A h₀ L m rest s pl Q E F X N hS h
section
variable {dp un : Nat} {gd : Option (List Code)} {cn : Str} {cs : Scope} {ad : Addr} {ccd : Value} {cl : List (Str × Addr)} {outer : List Env} {A₀ : Around} {base h₀ : Heap} {L : Addr} {m : Str → Option Value} {rest : List (Addr × Obj)} {s : Shared} {Q E : Value → Shared → Prop}
theorem seek_use (hk : SeekK prog w p loose mean mg mb dx fs td S) {o : Int} {to : Tok} {v : Value} (H : Here w p loose mean mg mb 5 dp un cs outer A₀ base h₀ L m ((dx, td v) :: rest) s.heap) (hS : ∀ q ∈ S, q ∈ rest) (hd : ∀ q ∈ rest, q.1 ≠ dx)
    (h : ∀ h' tk', Fr h₀ L h' m → News h₀ L h' ((dx, td (.int o to)) :: rest) → Q .none { s with heap := h', toks := tk' }) :
    wpAny (model prog w) (ktrTop dp un gd cn cs L ad ccd cl outer) (call (.ref fs) [.int o to]) Q E s := hk o to v dp un gd cn cs ad ccd cl outer A₀ base h₀ L m rest s Q E H hS hd h
theorem read_use (hk : ReadK prog w p loose mean mg mb dx fr td S PB) {o cnt : Int} {to tc : Tok}
    (H : Here w p loose mean mg mb 5 dp un cs outer A₀ base h₀ L m ((dx, td (.int o to)) :: rest) s.heap) (hS : ∀ q ∈ S, q ∈ rest) (hd : ∀ q ∈ rest, q.1 ≠ dx)
    (h0 : 0 ≤ o) (hc : 0 ≤ cnt) (hc1 : cnt ≤ 64) (h1 : o + cnt ≤ (PB.length : Int))
    (h : ∀ t t' h' tk' (d : List UInt8), Fr h₀ L h' m → News h₀ L h' ((dx, td (.int (o + cnt) t')) :: rest) → d.length = cnt.toNat → d = cutB PB o cnt → Q (.bytes d.toArray t) { s with heap := h', toks := tk' }) :
    wpAny (model prog w) (ktrTop dp un gd cn cs L ad ccd cl outer) (call (.ref fr) [.int cnt tc]) Q E s :=
  hk o cnt to tc dp un gd cn cs ad ccd cl outer A₀ base h₀ L m rest s Q E H hS hd h0 hc hc1 h1 fun t t' h' tk' F N => h t t' h' tk' _ F N (by rw [List.length_take, List.length_drop]; omega) rfl
end
/-- the ledger behind the reader's end -/
inductive EndLed (rw : Addr) (rest news : List (Addr × Obj)) (row : List Value) : Prop
  | mk (hs : ∀ q ∈ rest, q ∈ news) (ec : Nat) (hw : (rw, ({ cls := .type "list", data := .seq row.toArray ec } : Obj)) ∈ news) : EndLed rw rest news row
end
theorem fnK_use {f : Addr} {S : List (Addr × Obj)} {h₀ h : Heap} {L : Addr} {news : List (Addr × Obj)} (hf : FnK f S) (N : News h₀ L h news) (hS : ∀ q ∈ S, q ∈ news) : FnAt f h := hf h₀ h L news N hS
theorem ne_cons {a d : Nat} {o : Obj} {l : List (Addr × Obj)} (h : a ≠ d) (hl : ∀ q ∈ l, q.1 ≠ d) : ∀ q ∈ (((a : Addr), o) :: l), q.1 ≠ (d : Addr) := fun q hq => by
  rcases List.mem_cons.mp hq with rfl | hq
  · exact h
  · exact hl q hq
theorem memS {α : Type} {a b : α} {l : List α} (h : a ∈ l) : a ∈ b :: l := .tail _ h
theorem len_bytesN {prog : Program} {w : World} {A : Around} {E : Value → Shared → Prop} {s : Shared} {d : List UInt8} {n : Nat} {t : Tok} {Q : Value → Shared → Prop} (h : d.length = n) (hn : n ≤ 100) (hq : ∀ t' k, Q (.int n t') { s with toks := k }) :
    wpAny (model prog w) A (call (.builtin "len") [.bytes d.toArray t]) Q E s := by
  subst h
  exact len_bytes (by rw [List.size_toArray]; omega) (by rw [List.size_toArray]; exact hq _ _)
theorem unpack_locV {prog : Program} {w : World} {A : Around} {E : Value → Shared → Prop} {s : Shared} {h₀ : Heap} {L : Addr} {m : Str → Option Value} {news : List (Addr × Obj)} {Q : Value → Shared → Prop} {data sg : List UInt8} {t u : Tok} {v1 v2 v3 : Int} (hl : data.length = 20) (F : Fr h₀ L s.heap m) (N : News h₀ L s.heap news)
    (e0 : data.take 4 = sg) (e1 : Unp.sl data 4 8 = v1) (e2 : Unp.sl data 8 16 = v2) (e3 : Unp.sl data 16 20 = v3)
    (h : ∀ D t0 t1 t2 t3 c h' tk, Fr h₀ L h' m → News h₀ L h' ((D, ({ cls := .type "tuple", data := .seq #[.bytes sg.toArray t0, .int v1 t1, .int v2 t2, .int v3 t3] c } : Obj)) :: news) → (∀ p ∈ news, p.1 < D) → Q (.ref D) { s with heap := h', toks := tk }) :
    wpAny (model prog w) A (call (.builtin "_struct.unpack") [.str (Str.ofString "<4sLQL") t, .bytes data.toArray u]) Q E s := by
  subst e0 e1 e2 e3
  exact Unp.unpack_loc hl F N h
theorem starts_yes {prog : Program} {w : World} {A : Around} {E : Value → Shared → Prop} {s : Shared} {d : List UInt8} {t u : Tok} {Q : Value → Shared → Prop} (h4 : d.take 4 = [80, 75, 6, 6]) (hl : d.length = 56) (h : Q (.bool true) s) :
    wpAny (model prog w) A (call (.builtin "bytes.startswith") [.bytes d.toArray t, .bytes #[80, 75, 6, 6] u]) Q E s :=
  Unp.starts_call (c := [80, 75, 6, 6]) (by rw [hl]; decide) (by rw [show d.take ([80, 75, 6, 6] : List UInt8).length = [80, 75, 6, 6] from h4]; exact h)
theorem ifT {l sg : List UInt8} {n : Nat} (h : (l.take n == sg) = true) : l.take n = sg := by simpa using h
theorem ifF {l sg : List UInt8} {n : Nat} (h : (l.take n == sg) = false) : l.take n ≠ sg := by simpa using h
theorem stEn1 {M A Q E s y0 y1 y2 y3 y4 y5 y6 y7 y8 y9 y10 y11 y12} (h : Blk (wpAny M A (execs (Stmt.If (Expr.BoolOp y0 y1 y2) (y3 :: y4 :: y5 :: y6 :: y7) y8 y9 :: y10 :: y11) y12) Q E s)) : wpAny M A (execs (Stmt.If (Expr.BoolOp y0 y1 y2) (y3 :: y4 :: y5 :: y6 :: y7) y8 y9 :: y10 :: y11) y12) Q E s := h
local macro_rules | `(tactic| walk_at "execs cons If") => `(tactic| with_reducible refine stEn1 ?_)
local macro_rules | `(tactic| walk_at "getMethod ref") => `(tactic| refine Blk.out ?_)
local macro_rules | `(tactic| walk_at "call ref") => `(tactic| refine Blk.out ?_)
local macro_rules | `(tactic| walk_at "callWith ref") => `(tactic| refine Blk.out ?_)
local macro_rules | `(tactic| walk_at "leaving ref") => `(tactic| refine Blk.out ?_)
local macro_rules | `(tactic| walk_at "call builtin:_struct.unpack") => `(tactic| refine Blk.out ?_)
local macro_rules | `(tactic| walk_at "call builtin:bytes.startswith") => `(tactic| refine Blk.out ?_)
theorem stEn2 {M A Q E s y0 y1} (h : Blk (wpAny M A (call (Value.builtin "len") [Value.bytes y0 y1]) Q E s)) : wpAny M A (call (Value.builtin "len") [Value.bytes y0 y1]) Q E s := h
local macro_rules | `(tactic| walk_at "call builtin:len") => `(tactic| with_reducible refine stEn2 ?_)
local macro_rules | `(tactic| walk_at "FnAt") => `(tactic| (refine fnK_use (by (first | with_reducible assumption | assumption)) (by k_asm) (by repeat (first | with_reducible assumption | refine subT ?_))))
local macro_rules | `(tactic| walk_at "getMethod bytes") => `(tactic| (refine Unp.starts_method ?_))
section
variable {prog : Program} {w : World} {p : Program} {loose : List Str} {mean : ExcName → Option Value} {mg mb : Str → Option Value}
  {dp un : Nat} {gd : Option (List Code)} {cn : Str} {cs : Scope} {ad : Addr} {ccd : Value} {cl : List (Str × Addr)} {outer : List Env} {A₀ : Around} {base h₀ : Heap} {L : Addr} {m : Str → Option Value} {s : Shared} {Q E : Value → Shared → Prop}
  {dx rw fs fr x : Addr} {td : Value → Obj} {S rest : List (Addr × Obj)} {PB : List UInt8}
theorem end_call {e c xs : Int} {d : List UInt8} {te : Tok} {v0 a0 a1 a2 a3 a4 a5 a6 a7 a8 a9 : Value} {ec : Nat}
    (hgs : GetK prog w x dx fs "seek" td S) (hgr : GetK prog w x dx fr "read" td S) (hsk : SeekK prog w p loose mean mg mb dx fs td S) (hrk : ReadK prog w p loose mean mg mb dx fr td S PB)
    (hfs : FnK fs S) (hfr : FnK fr S) (he0 : 76 ≤ e) (he : e ≤ (PB.length : Int)) (hS : ∀ q ∈ S, q ∈ rest) (hdx : ∀ q ∈ rest, q.1 ≠ dx) (hrw : ∀ q ∈ rest, q.1 ≠ rw) (d2 : dx ≠ rw)
    (hl0 : (cutB PB (e - 20) 20).take 4 = [80, 75, 6, 7]) (hl1 : Unp.sl (cutB PB (e - 20) 20) 4 8 = 0) (hl2 : Unp.sl (cutB PB (e - 20) 20) 8 16 = c) (hl3 : Unp.sl (cutB PB (e - 20) 20) 16 20 = 1) (hc0 : 0 ≤ c) (hc1 : c ≤ e - 76)
    (hd4 : d.take 4 = [80, 75, 6, 6]) (hfo : (cutB PB c 56 = d ∧ xs = e - 76 - c) ∨ ((cutB PB c 56).take 4 ≠ [80, 75, 6, 6] ∧ c ≠ e - 76 ∧ cutB PB (e - 76) 56 = d ∧ xs = 0))
    (H : Here w p loose mean mg mb 12 dp un cs outer A₀ base h₀ L m ((dx, td v0) :: (rw, { cls := .type "list", data := .seq #[a0, a1, a2, a3, a4, a5, a6, a7, a8, a9] ec }) :: rest) s.heap)
    (hnew : (Unp.sl d 48 56 + Unp.sl d 40 48 = c ∧ Unp.sl d 4 12 + 12 = 56 + xs) → ∀ (spot : Int) news' h' tk' t0 t1 t2 t3 t4 t5 t6 t9,
      EndLed rw rest news' [.bytes (d.take 4).toArray t0, .int (Unp.sl d 16 20) t1, .int (Unp.sl d 20 24) t2, .int (Unp.sl d 24 32) t3, .int (Unp.sl d 32 40) t4, .int (Unp.sl d 40 48) t5, .int (Unp.sl d 48 56) t6, a7, a8, .int spot t9] → spot = e - 76 - xs →
      Fr h₀ L h' m → News h₀ L h' news' → Q (.ref rw) { s with heap := h', toks := tk' })
    (hbad : ¬ (Unp.sl d 48 56 + Unp.sl d 40 48 = c ∧ Unp.sl d 4 12 + 12 = 56 + xs) → ∀ news' g h' tk' ex, EndLed rw rest news' [a0, a1, a2, a3, a4, a5, a6, a7, a8, a9] → RaisedSN base g (envX cn cs L ad ccd cl :: outer) ex (.ref 52) news' h' → Fr h₀ L g m → g.UpToSlots h' → E (.ref ex) { s with heap := h', toks := tk' }) :
    wpAny (model prog w) (ktrTop dp un gd cn cs L ad ccd cl outer) (call (.ref 62) [.ref x, .int e te, .ref rw]) Q E s := by
  obtain ⟨B, F, X, N, T, hk, hdp, hu⟩ := H
  have d2' := neN d2
  refine wpAny_call ?_
  k_dflt ((refine' code_def ?k1_26 ?k2_26 ?k3_26 ?k4_26 ?k5_26 ?kA_26 ?kF_26 ?kK_26 ?k6_26 ?k7_26 ?k8_26 ?k9_26 ?kB_26 ?_ ?c2_26 ?c3_26 ?c4_26 ?c5_26; (case kA_26 => exact rfl); (case kF_26 => exact rfl); (case kK_26 => first | exact rfl | (first | with_reducible assumption | assumption)); (case k1_26 => k_asm); (case k2_26 => k_asm); (case k3_26 => k_asm); (case k4_26 => k_asm); (case k5_26 => k_asm); (case k6_26 => k_is); (case k7_26 => k_is); (case k8_26 => ktr_room); (case k9_26 => first | exact BindsTo.of_eq rfl | exact binds_K (by k_in) rfl (by k_is) rfl rfl rfl); (case c5_26 => decide); (case kB_26 => exact locs rfl); (case c2_26 => exact rfl); (case c3_26 => exact rfl); (case c4_26 => exact rfl); k_whole; intro g' L' h' FG' F' N' B' X' T'; (try dsimp only); (try k_lift B'); (try k_fold)))
  (repeat' (first | ((with_reducible refine Blk.into ?_); (first | ((with_reducible show wpAny _ _ (getMethod _ _ _) _ _ _); (refine get_use (by (first | with_reducible assumption | assumption)) (by k_asm) (by k_asm) (by ((rename News _ _ _ _ => dN); first | exact dN | exact rot1 dN | exact rot2 dN | exact rot3 dN | exact rot4 dN | exact rot5 dN | exact rot6 dN)) (by repeat (first | with_reducible assumption | refine subT ?_)) ?_); intro tkq; (try dsimp only)) | ((with_reducible show wpAny _ _ (call (Value.ref _) [Value.int _ _]) _ _ _); (k_dflt (refine seek_use (by (first | with_reducible assumption | assumption)) (by exact ⟨by k_asm, by k_asm, by k_asm, by ((rename News _ _ _ _ => dN); first | exact dN | exact rot1 dN | exact rot2 dN | exact rot3 dN | exact rot4 dN | exact rot5 dN | exact rot6 dN), by k_asm, by first | exact rfl | (first | with_reducible assumption | assumption), by (simp only [depth_deeper, depth_in1, ktrTop]; omega), by (simp only [units_deeper, units_in1, ktrTop]; omega)⟩) (by repeat (first | with_reducible assumption | refine subT ?_)) (by repeat (first | with_reducible assumption | refine ne_cons (by ((try dsimp only); first | with_reducible assumption | (symm; with_reducible assumption) | exact Cm.nl1 (by with_reducible assumption) | exact Cm.ng1 (by with_reducible assumption) | exact Cm.nl2 (by with_reducible assumption) | exact Cm.ng2 (by with_reducible assumption) | exact Cm.nl3 (by with_reducible assumption) | exact Cm.ng3 (by with_reducible assumption) | exact Cm.nl4 (by with_reducible assumption) | exact Cm.ng4 (by with_reducible assumption) | exact Cm.nl5 (by with_reducible assumption) | exact Cm.ng5 (by with_reducible assumption) | exact Cm.nl6 (by with_reducible assumption) | exact Cm.ng6 (by with_reducible assumption) | exact Cm.nl7 (by with_reducible assumption) | exact Cm.ng7 (by with_reducible assumption) | exact Cm.nn1 (by with_reducible assumption) | exact Cm.nm1 (by with_reducible assumption) | exact Cm.nn2 (by with_reducible assumption) | exact Cm.nm2 (by with_reducible assumption) | exact Cm.nn3 (by with_reducible assumption) | exact Cm.nm3 (by with_reducible assumption) | exact Cm.nn4 (by with_reducible assumption) | exact Cm.nm4 (by with_reducible assumption) | exact Cm.nn5 (by with_reducible assumption) | exact Cm.nm5 (by with_reducible assumption) | omega)) ?_)) ?_)); intro hq tkq Fq Nq; (try k_sweep)) | (k_dflt (refine callWith_F (by walk_at "FnAt") ?_)) | ((with_reducible show wpAny _ _ (call (Value.builtin "len") [Value.bytes _ _]) _ _ _); (refine len_bytesN (by with_reducible assumption) (by decide) ?_); intro t9' k9') | ((with_reducible show wpAny _ _ (call (Value.builtin "_struct.unpack") _) _ _ _); ((first | refine unpack_locV (by with_reducible assumption) (by k_asm) (by k_asm) hl0 hl1 hl2 hl3 ?_ | refine Unp.unpack_rec (by with_reducible assumption) (by k_asm) (by k_asm) ?_); intros; (rename ∀ p : Addr × Obj, p ∈ _ → p.1 < _ => l1q); (have l9q := allLt_of l1q); (simp only [AllLt] at l9q); (try clear l1q); (try k_sweep))) | ((with_reducible show wpAny _ _ (call (Value.builtin "bytes.startswith") _) _ _ _); (first | refine starts_yes hd4 (by with_reducible assumption) ?_ | refine Unp.starts_call (c := [_, _, _, _]) (by (simp only [List.length_cons, List.length_nil]; omega)) ?_)) | ((refine' leave_raiseS ?kk1_27 ?kk0_27 ?kk2_27 ?kk3_27 ?_; (case kk0_27 => first | (first | with_reducible assumption | assumption) | exact Heap.MadeExc.of (by (first | with_reducible assumption | assumption))); (case kk2_27 => (first | with_reducible assumption | assumption)); (case kk1_27 => (first | with_reducible assumption | assumption)); (case kk3_27 => k_asm); k_whole; intro hq tq Sq Rq Uq; (try dsimp only at Sq Rq Uq ⊢))))) | (k_unfold; (try dsimp only)) | (k_end; wrow_close) | walk1 | (dsimp only; walk1) | (leave1; (try dsimp only))))
  ((refine Blk.into ?_); k_dflt (refine' read_use ?hk_28 ?H_28 ?hS_28 ?hd_28 ?h0_28 ?hc_28 ?hc1_28 ?h1_28 ?_); (case hk_28 => (first | with_reducible assumption | assumption)); (case H_28 => exact ⟨by k_asm, by k_asm, by k_asm, by ((rename News _ _ _ _ => dN); first | exact dN | exact rot1 dN | exact rot2 dN | exact rot3 dN | exact rot4 dN | exact rot5 dN | exact rot6 dN), by k_asm, by first | exact rfl | (first | with_reducible assumption | assumption), by (simp only [depth_deeper, depth_in1, ktrTop]; omega), by (simp only [units_deeper, units_in1, ktrTop]; omega)⟩); (case hS_28 => repeat (first | with_reducible assumption | refine subT ?_)); (case hd_28 => repeat (first | with_reducible assumption | refine ne_cons (by ((try dsimp only); first | with_reducible assumption | (symm; with_reducible assumption) | exact Cm.nl1 (by with_reducible assumption) | exact Cm.ng1 (by with_reducible assumption) | exact Cm.nl2 (by with_reducible assumption) | exact Cm.ng2 (by with_reducible assumption) | exact Cm.nl3 (by with_reducible assumption) | exact Cm.ng3 (by with_reducible assumption) | exact Cm.nl4 (by with_reducible assumption) | exact Cm.ng4 (by with_reducible assumption) | exact Cm.nl5 (by with_reducible assumption) | exact Cm.ng5 (by with_reducible assumption) | exact Cm.nl6 (by with_reducible assumption) | exact Cm.ng6 (by with_reducible assumption) | exact Cm.nl7 (by with_reducible assumption) | exact Cm.ng7 (by with_reducible assumption) | exact Cm.nn1 (by with_reducible assumption) | exact Cm.nm1 (by with_reducible assumption) | exact Cm.nn2 (by with_reducible assumption) | exact Cm.nm2 (by with_reducible assumption) | exact Cm.nn3 (by with_reducible assumption) | exact Cm.nm3 (by with_reducible assumption) | exact Cm.nn4 (by with_reducible assumption) | exact Cm.nm4 (by with_reducible assumption) | exact Cm.nn5 (by with_reducible assumption) | exact Cm.nm5 (by with_reducible assumption) | omega)) ?_)); (case h0_28 => omega); (case h1_28 => omega); (case hc_28 => decide); (case hc1_28 => decide); (intro tq t9q hq tkq dq Fq Nq hdlq hddq; (simp only [Int.reduceToNat] at hdlq); (try k_sweep)))
  subst hddq
  (repeat' (first | ((with_reducible refine Blk.into ?_); (first | ((with_reducible show wpAny _ _ (getMethod _ _ _) _ _ _); (refine get_use (by (first | with_reducible assumption | assumption)) (by k_asm) (by k_asm) (by ((rename News _ _ _ _ => dN); first | exact dN | exact rot1 dN | exact rot2 dN | exact rot3 dN | exact rot4 dN | exact rot5 dN | exact rot6 dN)) (by repeat (first | with_reducible assumption | refine subT ?_)) ?_); intro tkq; (try dsimp only)) | ((with_reducible show wpAny _ _ (call (Value.ref _) [Value.int _ _]) _ _ _); (k_dflt (refine seek_use (by (first | with_reducible assumption | assumption)) (by exact ⟨by k_asm, by k_asm, by k_asm, by ((rename News _ _ _ _ => dN); first | exact dN | exact rot1 dN | exact rot2 dN | exact rot3 dN | exact rot4 dN | exact rot5 dN | exact rot6 dN), by k_asm, by first | exact rfl | (first | with_reducible assumption | assumption), by (simp only [depth_deeper, depth_in1, ktrTop]; omega), by (simp only [units_deeper, units_in1, ktrTop]; omega)⟩) (by repeat (first | with_reducible assumption | refine subT ?_)) (by repeat (first | with_reducible assumption | refine ne_cons (by ((try dsimp only); first | with_reducible assumption | (symm; with_reducible assumption) | exact Cm.nl1 (by with_reducible assumption) | exact Cm.ng1 (by with_reducible assumption) | exact Cm.nl2 (by with_reducible assumption) | exact Cm.ng2 (by with_reducible assumption) | exact Cm.nl3 (by with_reducible assumption) | exact Cm.ng3 (by with_reducible assumption) | exact Cm.nl4 (by with_reducible assumption) | exact Cm.ng4 (by with_reducible assumption) | exact Cm.nl5 (by with_reducible assumption) | exact Cm.ng5 (by with_reducible assumption) | exact Cm.nl6 (by with_reducible assumption) | exact Cm.ng6 (by with_reducible assumption) | exact Cm.nl7 (by with_reducible assumption) | exact Cm.ng7 (by with_reducible assumption) | exact Cm.nn1 (by with_reducible assumption) | exact Cm.nm1 (by with_reducible assumption) | exact Cm.nn2 (by with_reducible assumption) | exact Cm.nm2 (by with_reducible assumption) | exact Cm.nn3 (by with_reducible assumption) | exact Cm.nm3 (by with_reducible assumption) | exact Cm.nn4 (by with_reducible assumption) | exact Cm.nm4 (by with_reducible assumption) | exact Cm.nn5 (by with_reducible assumption) | exact Cm.nm5 (by with_reducible assumption) | omega)) ?_)) ?_)); intro hq tkq Fq Nq; (try k_sweep)) | (k_dflt (refine callWith_F (by walk_at "FnAt") ?_)) | ((with_reducible show wpAny _ _ (call (Value.builtin "len") [Value.bytes _ _]) _ _ _); (refine len_bytesN (by with_reducible assumption) (by decide) ?_); intro t9' k9') | ((with_reducible show wpAny _ _ (call (Value.builtin "_struct.unpack") _) _ _ _); ((first | refine unpack_locV (by with_reducible assumption) (by k_asm) (by k_asm) hl0 hl1 hl2 hl3 ?_ | refine Unp.unpack_rec (by with_reducible assumption) (by k_asm) (by k_asm) ?_); intros; (rename ∀ p : Addr × Obj, p ∈ _ → p.1 < _ => l1q); (have l9q := allLt_of l1q); (simp only [AllLt] at l9q); (try clear l1q); (try k_sweep))) | ((with_reducible show wpAny _ _ (call (Value.builtin "bytes.startswith") _) _ _ _); (first | refine starts_yes hd4 (by with_reducible assumption) ?_ | refine Unp.starts_call (c := [_, _, _, _]) (by (simp only [List.length_cons, List.length_nil]; omega)) ?_)) | ((refine' leave_raiseS ?kk1_29 ?kk0_29 ?kk2_29 ?kk3_29 ?_; (case kk0_29 => first | (first | with_reducible assumption | assumption) | exact Heap.MadeExc.of (by (first | with_reducible assumption | assumption))); (case kk2_29 => (first | with_reducible assumption | assumption)); (case kk1_29 => (first | with_reducible assumption | assumption)); (case kk3_29 => k_asm); k_whole; intro hq tq Sq Rq Uq; (try dsimp only at Sq Rq Uq ⊢))))) | (k_unfold; (try dsimp only)) | (k_end; wrow_close) | walk1 | (dsimp only; walk1) | (leave1; (try dsimp only))))
  ((refine Blk.into ?_); k_dflt (refine' read_use ?hk_30 ?H_30 ?hS_30 ?hd_30 ?h0_30 ?hc_30 ?hc1_30 ?h1_30 ?_); (case hk_30 => (first | with_reducible assumption | assumption)); (case H_30 => exact ⟨by k_asm, by k_asm, by k_asm, by ((rename News _ _ _ _ => dN); first | exact dN | exact rot1 dN | exact rot2 dN | exact rot3 dN | exact rot4 dN | exact rot5 dN | exact rot6 dN), by k_asm, by first | exact rfl | (first | with_reducible assumption | assumption), by (simp only [depth_deeper, depth_in1, ktrTop]; omega), by (simp only [units_deeper, units_in1, ktrTop]; omega)⟩); (case hS_30 => repeat (first | with_reducible assumption | refine subT ?_)); (case hd_30 => repeat (first | with_reducible assumption | refine ne_cons (by ((try dsimp only); first | with_reducible assumption | (symm; with_reducible assumption) | exact Cm.nl1 (by with_reducible assumption) | exact Cm.ng1 (by with_reducible assumption) | exact Cm.nl2 (by with_reducible assumption) | exact Cm.ng2 (by with_reducible assumption) | exact Cm.nl3 (by with_reducible assumption) | exact Cm.ng3 (by with_reducible assumption) | exact Cm.nl4 (by with_reducible assumption) | exact Cm.ng4 (by with_reducible assumption) | exact Cm.nl5 (by with_reducible assumption) | exact Cm.ng5 (by with_reducible assumption) | exact Cm.nl6 (by with_reducible assumption) | exact Cm.ng6 (by with_reducible assumption) | exact Cm.nl7 (by with_reducible assumption) | exact Cm.ng7 (by with_reducible assumption) | exact Cm.nn1 (by with_reducible assumption) | exact Cm.nm1 (by with_reducible assumption) | exact Cm.nn2 (by with_reducible assumption) | exact Cm.nm2 (by with_reducible assumption) | exact Cm.nn3 (by with_reducible assumption) | exact Cm.nm3 (by with_reducible assumption) | exact Cm.nn4 (by with_reducible assumption) | exact Cm.nm4 (by with_reducible assumption) | exact Cm.nn5 (by with_reducible assumption) | exact Cm.nm5 (by with_reducible assumption) | omega)) ?_)); (case h0_30 => omega); (case h1_30 => omega); (case hc_30 => decide); (case hc1_30 => decide); (intro tq t9q hq tkq dq Fq Nq hdlq hddq; (simp only [Int.reduceToNat] at hdlq); (try k_sweep)))
  have hddz := hddq
  (repeat' (first | ((with_reducible refine Blk.into ?_); (first | ((with_reducible show wpAny _ _ (getMethod _ _ _) _ _ _); (refine get_use (by (first | with_reducible assumption | assumption)) (by k_asm) (by k_asm) (by ((rename News _ _ _ _ => dN); first | exact dN | exact rot1 dN | exact rot2 dN | exact rot3 dN | exact rot4 dN | exact rot5 dN | exact rot6 dN)) (by repeat (first | with_reducible assumption | refine subT ?_)) ?_); intro tkq; (try dsimp only)) | ((with_reducible show wpAny _ _ (call (Value.ref _) [Value.int _ _]) _ _ _); (k_dflt (refine seek_use (by (first | with_reducible assumption | assumption)) (by exact ⟨by k_asm, by k_asm, by k_asm, by ((rename News _ _ _ _ => dN); first | exact dN | exact rot1 dN | exact rot2 dN | exact rot3 dN | exact rot4 dN | exact rot5 dN | exact rot6 dN), by k_asm, by first | exact rfl | (first | with_reducible assumption | assumption), by (simp only [depth_deeper, depth_in1, ktrTop]; omega), by (simp only [units_deeper, units_in1, ktrTop]; omega)⟩) (by repeat (first | with_reducible assumption | refine subT ?_)) (by repeat (first | with_reducible assumption | refine ne_cons (by ((try dsimp only); first | with_reducible assumption | (symm; with_reducible assumption) | exact Cm.nl1 (by with_reducible assumption) | exact Cm.ng1 (by with_reducible assumption) | exact Cm.nl2 (by with_reducible assumption) | exact Cm.ng2 (by with_reducible assumption) | exact Cm.nl3 (by with_reducible assumption) | exact Cm.ng3 (by with_reducible assumption) | exact Cm.nl4 (by with_reducible assumption) | exact Cm.ng4 (by with_reducible assumption) | exact Cm.nl5 (by with_reducible assumption) | exact Cm.ng5 (by with_reducible assumption) | exact Cm.nl6 (by with_reducible assumption) | exact Cm.ng6 (by with_reducible assumption) | exact Cm.nl7 (by with_reducible assumption) | exact Cm.ng7 (by with_reducible assumption) | exact Cm.nn1 (by with_reducible assumption) | exact Cm.nm1 (by with_reducible assumption) | exact Cm.nn2 (by with_reducible assumption) | exact Cm.nm2 (by with_reducible assumption) | exact Cm.nn3 (by with_reducible assumption) | exact Cm.nm3 (by with_reducible assumption) | exact Cm.nn4 (by with_reducible assumption) | exact Cm.nm4 (by with_reducible assumption) | exact Cm.nn5 (by with_reducible assumption) | exact Cm.nm5 (by with_reducible assumption) | omega)) ?_)) ?_)); intro hq tkq Fq Nq; (try k_sweep)) | (k_dflt (refine callWith_F (by walk_at "FnAt") ?_)) | ((with_reducible show wpAny _ _ (call (Value.builtin "len") [Value.bytes _ _]) _ _ _); (refine len_bytesN (by with_reducible assumption) (by decide) ?_); intro t9' k9') | ((with_reducible show wpAny _ _ (call (Value.builtin "_struct.unpack") _) _ _ _); ((first | refine unpack_locV (by with_reducible assumption) (by k_asm) (by k_asm) hl0 hl1 hl2 hl3 ?_ | refine Unp.unpack_rec (by with_reducible assumption) (by k_asm) (by k_asm) ?_); intros; (rename ∀ p : Addr × Obj, p ∈ _ → p.1 < _ => l1q); (have l9q := allLt_of l1q); (simp only [AllLt] at l9q); (try clear l1q); (try k_sweep))) | ((with_reducible show wpAny _ _ (call (Value.builtin "bytes.startswith") _) _ _ _); (first | refine starts_yes hd4 (by with_reducible assumption) ?_ | refine Unp.starts_call (c := [_, _, _, _]) (by (simp only [List.length_cons, List.length_nil]; omega)) ?_)) | ((refine' leave_raiseS ?kk1_31 ?kk0_31 ?kk2_31 ?kk3_31 ?_; (case kk0_31 => first | (first | with_reducible assumption | assumption) | exact Heap.MadeExc.of (by (first | with_reducible assumption | assumption))); (case kk2_31 => (first | with_reducible assumption | assumption)); (case kk1_31 => (first | with_reducible assumption | assumption)); (case kk3_31 => k_asm); k_whole; intro hq tq Sq Rq Uq; (try dsimp only at Sq Rq Uq ⊢))))) | (k_unfold; (try dsimp only)) | (k_end; wrow_close) | walk1 | (dsimp only; walk1) | (leave1; (try dsimp only))))
  refine Blk.into ?_
  let Jc : Heap → Prop := fun h' => ∀ G : Prop, (∀ (m' : Str → Option Value) (td to tr tx : Tok) (of xv : Int) (nx : List (Addr × Obj)), Fr g' L' h' m' → News g' L' h' ((rw, { cls := .type "list", data := .seq #[a0, a1, a2, a3, a4, a5, a6, a7, a8, a9] ec }) :: nx) → NmAre m' [("endrec", .ref rw), ("data", .bytes d.toArray td), ("offset", .int of to), ("reloff", .int c tr), ("extrasz", .int xv tx)] → of = e - 76 → xv = xs → d.length = 56 → (∀ q ∈ rest, q ∈ nx) → (∀ q ∈ nx, q.1 ≠ rw) → G) → G
  with_reducible refine Jn.ckpt 1 Jc ?_ ?_
  · dsimp only [List.take]
    k_fold
    (repeat' (first | ((with_reducible refine Blk.into ?_); (first | ((with_reducible show wpAny _ _ (getMethod _ _ _) _ _ _); (refine get_use (by (first | with_reducible assumption | assumption)) (by k_asm) (by k_asm) (by ((rename News _ _ _ _ => dN); first | exact dN | exact rot1 dN | exact rot2 dN | exact rot3 dN | exact rot4 dN | exact rot5 dN | exact rot6 dN)) (by repeat (first | with_reducible assumption | refine subT ?_)) ?_); intro tkq; (try dsimp only)) | ((with_reducible show wpAny _ _ (call (Value.ref _) [Value.int _ _]) _ _ _); (k_dflt (refine seek_use (by (first | with_reducible assumption | assumption)) (by exact ⟨by k_asm, by k_asm, by k_asm, by ((rename News _ _ _ _ => dN); first | exact dN | exact rot1 dN | exact rot2 dN | exact rot3 dN | exact rot4 dN | exact rot5 dN | exact rot6 dN), by k_asm, by first | exact rfl | (first | with_reducible assumption | assumption), by (simp only [depth_deeper, depth_in1, ktrTop]; omega), by (simp only [units_deeper, units_in1, ktrTop]; omega)⟩) (by repeat (first | with_reducible assumption | refine subT ?_)) (by repeat (first | with_reducible assumption | refine ne_cons (by ((try dsimp only); first | with_reducible assumption | (symm; with_reducible assumption) | exact Cm.nl1 (by with_reducible assumption) | exact Cm.ng1 (by with_reducible assumption) | exact Cm.nl2 (by with_reducible assumption) | exact Cm.ng2 (by with_reducible assumption) | exact Cm.nl3 (by with_reducible assumption) | exact Cm.ng3 (by with_reducible assumption) | exact Cm.nl4 (by with_reducible assumption) | exact Cm.ng4 (by with_reducible assumption) | exact Cm.nl5 (by with_reducible assumption) | exact Cm.ng5 (by with_reducible assumption) | exact Cm.nl6 (by with_reducible assumption) | exact Cm.ng6 (by with_reducible assumption) | exact Cm.nl7 (by with_reducible assumption) | exact Cm.ng7 (by with_reducible assumption) | exact Cm.nn1 (by with_reducible assumption) | exact Cm.nm1 (by with_reducible assumption) | exact Cm.nn2 (by with_reducible assumption) | exact Cm.nm2 (by with_reducible assumption) | exact Cm.nn3 (by with_reducible assumption) | exact Cm.nm3 (by with_reducible assumption) | exact Cm.nn4 (by with_reducible assumption) | exact Cm.nm4 (by with_reducible assumption) | exact Cm.nn5 (by with_reducible assumption) | exact Cm.nm5 (by with_reducible assumption) | omega)) ?_)) ?_)); intro hq tkq Fq Nq; (try k_sweep)) | (k_dflt (refine callWith_F (by walk_at "FnAt") ?_)) | ((with_reducible show wpAny _ _ (call (Value.builtin "len") [Value.bytes _ _]) _ _ _); (refine len_bytesN (by with_reducible assumption) (by decide) ?_); intro t9' k9') | ((with_reducible show wpAny _ _ (call (Value.builtin "_struct.unpack") _) _ _ _); ((first | refine unpack_locV (by with_reducible assumption) (by k_asm) (by k_asm) hl0 hl1 hl2 hl3 ?_ | refine Unp.unpack_rec (by with_reducible assumption) (by k_asm) (by k_asm) ?_); intros; (rename ∀ p : Addr × Obj, p ∈ _ → p.1 < _ => l1q); (have l9q := allLt_of l1q); (simp only [AllLt] at l9q); (try clear l1q); (try k_sweep))) | ((with_reducible show wpAny _ _ (call (Value.builtin "bytes.startswith") _) _ _ _); (first | refine starts_yes hd4 (by with_reducible assumption) ?_ | refine Unp.starts_call (c := [_, _, _, _]) (by (simp only [List.length_cons, List.length_nil]; omega)) ?_)) | ((refine' leave_raiseS ?kk1_32 ?kk0_32 ?kk2_32 ?kk3_32 ?_; (case kk0_32 => first | (first | with_reducible assumption | assumption) | exact Heap.MadeExc.of (by (first | with_reducible assumption | assumption))); (case kk2_32 => (first | with_reducible assumption | assumption)); (case kk1_32 => (first | with_reducible assumption | assumption)); (case kk3_32 => k_asm); k_whole; intro hq tq Sq Rq Uq; (try dsimp only at Sq Rq Uq ⊢))))) | (k_unfold; (try dsimp only)) | (k_end; wrow_close) | walk1 | (dsimp only; walk1) | (leave1; (try dsimp only))))
    · rcases hfo with ⟨f1, f2⟩ | ⟨f1, _⟩
      · rw [f1] at hddq
        subst hddq f2
        (refine ⟨_, _, rfl, ?_⟩; intro G k; exact k _ _ _ _ _ _ _ _ (by k_asm) (by ((rename News _ _ _ _ => dN); first | exact dN | exact rot1 dN | exact rot2 dN | exact rot3 dN | exact rot4 dN | exact rot5 dN | exact rot6 dN)) (by repeat (first | exact nm_nil | refine nm_cons (by with_unfolding_all rfl) ?_)) (by omega) (by omega) (by with_reducible assumption) (by repeat (first | exact fun _ h => h | with_reducible assumption | refine subT ?_)) (by repeat (first | with_reducible assumption | refine ne_cons (by ((try dsimp only); first | with_reducible assumption | (symm; with_reducible assumption) | exact Cm.nl1 (by with_reducible assumption) | exact Cm.ng1 (by with_reducible assumption) | exact Cm.nl2 (by with_reducible assumption) | exact Cm.ng2 (by with_reducible assumption) | exact Cm.nl3 (by with_reducible assumption) | exact Cm.ng3 (by with_reducible assumption) | exact Cm.nl4 (by with_reducible assumption) | exact Cm.ng4 (by with_reducible assumption) | exact Cm.nl5 (by with_reducible assumption) | exact Cm.ng5 (by with_reducible assumption) | exact Cm.nl6 (by with_reducible assumption) | exact Cm.ng6 (by with_reducible assumption) | exact Cm.nl7 (by with_reducible assumption) | exact Cm.ng7 (by with_reducible assumption) | exact Cm.nn1 (by with_reducible assumption) | exact Cm.nm1 (by with_reducible assumption) | exact Cm.nn2 (by with_reducible assumption) | exact Cm.nm2 (by with_reducible assumption) | exact Cm.nn3 (by with_reducible assumption) | exact Cm.nm3 (by with_reducible assumption) | exact Cm.nn4 (by with_reducible assumption) | exact Cm.nm4 (by with_reducible assumption) | exact Cm.nn5 (by with_reducible assumption) | exact Cm.nm5 (by with_reducible assumption) | omega)) ?_)))
      · exact absurd (ifT (by assumption)) (by rw [hddq]; exact f1)
    · ((refine Blk.into ?_); k_dflt (refine' read_use ?hk_33 ?H_33 ?hS_33 ?hd_33 ?h0_33 ?hc_33 ?hc1_33 ?h1_33 ?_); (case hk_33 => (first | with_reducible assumption | assumption)); (case H_33 => exact ⟨by k_asm, by k_asm, by k_asm, by ((rename News _ _ _ _ => dN); first | exact dN | exact rot1 dN | exact rot2 dN | exact rot3 dN | exact rot4 dN | exact rot5 dN | exact rot6 dN), by k_asm, by first | exact rfl | (first | with_reducible assumption | assumption), by (simp only [depth_deeper, depth_in1, ktrTop]; omega), by (simp only [units_deeper, units_in1, ktrTop]; omega)⟩); (case hS_33 => repeat (first | with_reducible assumption | refine subT ?_)); (case hd_33 => repeat (first | with_reducible assumption | refine ne_cons (by ((try dsimp only); first | with_reducible assumption | (symm; with_reducible assumption) | exact Cm.nl1 (by with_reducible assumption) | exact Cm.ng1 (by with_reducible assumption) | exact Cm.nl2 (by with_reducible assumption) | exact Cm.ng2 (by with_reducible assumption) | exact Cm.nl3 (by with_reducible assumption) | exact Cm.ng3 (by with_reducible assumption) | exact Cm.nl4 (by with_reducible assumption) | exact Cm.ng4 (by with_reducible assumption) | exact Cm.nl5 (by with_reducible assumption) | exact Cm.ng5 (by with_reducible assumption) | exact Cm.nl6 (by with_reducible assumption) | exact Cm.ng6 (by with_reducible assumption) | exact Cm.nl7 (by with_reducible assumption) | exact Cm.ng7 (by with_reducible assumption) | exact Cm.nn1 (by with_reducible assumption) | exact Cm.nm1 (by with_reducible assumption) | exact Cm.nn2 (by with_reducible assumption) | exact Cm.nm2 (by with_reducible assumption) | exact Cm.nn3 (by with_reducible assumption) | exact Cm.nm3 (by with_reducible assumption) | exact Cm.nn4 (by with_reducible assumption) | exact Cm.nm4 (by with_reducible assumption) | exact Cm.nn5 (by with_reducible assumption) | exact Cm.nm5 (by with_reducible assumption) | omega)) ?_)); (case h0_33 => omega); (case h1_33 => omega); (case hc_33 => decide); (case hc1_33 => decide); (intro tq t9q hq tkq dq Fq Nq hdlq hddq; (simp only [Int.reduceToNat] at hdlq); (try k_sweep)))
      rcases hfo with ⟨f1, _⟩ | ⟨_, _, f2, f3⟩
      · exact absurd hd4 (by rw [← f1, ← hddz]; exact ifF (by assumption))
      · rw [show e - 20 - 56 = e - 76 by omega, f2] at hddq
        subst hddq
        (repeat' (first | ((with_reducible refine Blk.into ?_); (first | ((with_reducible show wpAny _ _ (getMethod _ _ _) _ _ _); (refine get_use (by (first | with_reducible assumption | assumption)) (by k_asm) (by k_asm) (by ((rename News _ _ _ _ => dN); first | exact dN | exact rot1 dN | exact rot2 dN | exact rot3 dN | exact rot4 dN | exact rot5 dN | exact rot6 dN)) (by repeat (first | with_reducible assumption | refine subT ?_)) ?_); intro tkq; (try dsimp only)) | ((with_reducible show wpAny _ _ (call (Value.ref _) [Value.int _ _]) _ _ _); (k_dflt (refine seek_use (by (first | with_reducible assumption | assumption)) (by exact ⟨by k_asm, by k_asm, by k_asm, by ((rename News _ _ _ _ => dN); first | exact dN | exact rot1 dN | exact rot2 dN | exact rot3 dN | exact rot4 dN | exact rot5 dN | exact rot6 dN), by k_asm, by first | exact rfl | (first | with_reducible assumption | assumption), by (simp only [depth_deeper, depth_in1, ktrTop]; omega), by (simp only [units_deeper, units_in1, ktrTop]; omega)⟩) (by repeat (first | with_reducible assumption | refine subT ?_)) (by repeat (first | with_reducible assumption | refine ne_cons (by ((try dsimp only); first | with_reducible assumption | (symm; with_reducible assumption) | exact Cm.nl1 (by with_reducible assumption) | exact Cm.ng1 (by with_reducible assumption) | exact Cm.nl2 (by with_reducible assumption) | exact Cm.ng2 (by with_reducible assumption) | exact Cm.nl3 (by with_reducible assumption) | exact Cm.ng3 (by with_reducible assumption) | exact Cm.nl4 (by with_reducible assumption) | exact Cm.ng4 (by with_reducible assumption) | exact Cm.nl5 (by with_reducible assumption) | exact Cm.ng5 (by with_reducible assumption) | exact Cm.nl6 (by with_reducible assumption) | exact Cm.ng6 (by with_reducible assumption) | exact Cm.nl7 (by with_reducible assumption) | exact Cm.ng7 (by with_reducible assumption) | exact Cm.nn1 (by with_reducible assumption) | exact Cm.nm1 (by with_reducible assumption) | exact Cm.nn2 (by with_reducible assumption) | exact Cm.nm2 (by with_reducible assumption) | exact Cm.nn3 (by with_reducible assumption) | exact Cm.nm3 (by with_reducible assumption) | exact Cm.nn4 (by with_reducible assumption) | exact Cm.nm4 (by with_reducible assumption) | exact Cm.nn5 (by with_reducible assumption) | exact Cm.nm5 (by with_reducible assumption) | omega)) ?_)) ?_)); intro hq tkq Fq Nq; (try k_sweep)) | (k_dflt (refine callWith_F (by walk_at "FnAt") ?_)) | ((with_reducible show wpAny _ _ (call (Value.builtin "len") [Value.bytes _ _]) _ _ _); (refine len_bytesN (by with_reducible assumption) (by decide) ?_); intro t9' k9') | ((with_reducible show wpAny _ _ (call (Value.builtin "_struct.unpack") _) _ _ _); ((first | refine unpack_locV (by with_reducible assumption) (by k_asm) (by k_asm) hl0 hl1 hl2 hl3 ?_ | refine Unp.unpack_rec (by with_reducible assumption) (by k_asm) (by k_asm) ?_); intros; (rename ∀ p : Addr × Obj, p ∈ _ → p.1 < _ => l1q); (have l9q := allLt_of l1q); (simp only [AllLt] at l9q); (try clear l1q); (try k_sweep))) | ((with_reducible show wpAny _ _ (call (Value.builtin "bytes.startswith") _) _ _ _); (first | refine starts_yes hd4 (by with_reducible assumption) ?_ | refine Unp.starts_call (c := [_, _, _, _]) (by (simp only [List.length_cons, List.length_nil]; omega)) ?_)) | ((refine' leave_raiseS ?kk1_34 ?kk0_34 ?kk2_34 ?kk3_34 ?_; (case kk0_34 => first | (first | with_reducible assumption | assumption) | exact Heap.MadeExc.of (by (first | with_reducible assumption | assumption))); (case kk2_34 => (first | with_reducible assumption | assumption)); (case kk1_34 => (first | with_reducible assumption | assumption)); (case kk3_34 => k_asm); k_whole; intro hq tq Sq Rq Uq; (try dsimp only at Sq Rq Uq ⊢))))) | (k_unfold; (try dsimp only)) | (k_end; wrow_close) | walk1 | (dsimp only; walk1) | (leave1; (try dsimp only))))
        (refine ⟨_, _, rfl, ?_⟩; intro G k; exact k _ _ _ _ _ _ _ _ (by k_asm) (by ((rename News _ _ _ _ => dN); first | exact dN | exact rot1 dN | exact rot2 dN | exact rot3 dN | exact rot4 dN | exact rot5 dN | exact rot6 dN)) (by repeat (first | exact nm_nil | refine nm_cons (by with_unfolding_all rfl) ?_)) (by omega) (by omega) (by with_reducible assumption) (by repeat (first | exact fun _ h => h | with_reducible assumption | refine subT ?_)) (by repeat (first | with_reducible assumption | refine ne_cons (by ((try dsimp only); first | with_reducible assumption | (symm; with_reducible assumption) | exact Cm.nl1 (by with_reducible assumption) | exact Cm.ng1 (by with_reducible assumption) | exact Cm.nl2 (by with_reducible assumption) | exact Cm.ng2 (by with_reducible assumption) | exact Cm.nl3 (by with_reducible assumption) | exact Cm.ng3 (by with_reducible assumption) | exact Cm.nl4 (by with_reducible assumption) | exact Cm.ng4 (by with_reducible assumption) | exact Cm.nl5 (by with_reducible assumption) | exact Cm.ng5 (by with_reducible assumption) | exact Cm.nl6 (by with_reducible assumption) | exact Cm.ng6 (by with_reducible assumption) | exact Cm.nl7 (by with_reducible assumption) | exact Cm.ng7 (by with_reducible assumption) | exact Cm.nn1 (by with_reducible assumption) | exact Cm.nm1 (by with_reducible assumption) | exact Cm.nn2 (by with_reducible assumption) | exact Cm.nm2 (by with_reducible assumption) | exact Cm.nn3 (by with_reducible assumption) | exact Cm.nm3 (by with_reducible assumption) | exact Cm.nn4 (by with_reducible assumption) | exact Cm.nm4 (by with_reducible assumption) | exact Cm.nn5 (by with_reducible assumption) | exact Cm.nm5 (by with_reducible assumption) | omega)) ?_)))
    · exfalso
      rcases hfo with ⟨f1, _⟩ | ⟨_, f2, _⟩
      · exact absurd hd4 (by rw [← f1, ← hddz]; exact ifF (by assumption))
      · omega
  · intro h2 tk2 hJ
    with_reducible refine hJ _ ?_
    clear hJ Jc
    intro m2 td to tr tx of xv nx F2 N2 M2 hof hxv hd56 hsub hnrw
    subst hxv
    with_reducible refine fr_fold F2 M2 ?_
    clear F2 M2
    intro mm F2
    dsimp only [List.drop]
    (repeat' (first | ((with_reducible refine Blk.into ?_); (first | ((with_reducible show wpAny _ _ (getMethod _ _ _) _ _ _); (refine get_use (by (first | with_reducible assumption | assumption)) (by k_asm) (by k_asm) (by ((rename News _ _ _ _ => dN); first | exact dN | exact rot1 dN | exact rot2 dN | exact rot3 dN | exact rot4 dN | exact rot5 dN | exact rot6 dN)) (by repeat (first | with_reducible assumption | refine subT ?_)) ?_); intro tkq; (try dsimp only)) | ((with_reducible show wpAny _ _ (call (Value.ref _) [Value.int _ _]) _ _ _); (k_dflt (refine seek_use (by (first | with_reducible assumption | assumption)) (by exact ⟨by k_asm, by k_asm, by k_asm, by ((rename News _ _ _ _ => dN); first | exact dN | exact rot1 dN | exact rot2 dN | exact rot3 dN | exact rot4 dN | exact rot5 dN | exact rot6 dN), by k_asm, by first | exact rfl | (first | with_reducible assumption | assumption), by (simp only [depth_deeper, depth_in1, ktrTop]; omega), by (simp only [units_deeper, units_in1, ktrTop]; omega)⟩) (by repeat (first | with_reducible assumption | refine subT ?_)) (by repeat (first | with_reducible assumption | refine ne_cons (by ((try dsimp only); first | with_reducible assumption | (symm; with_reducible assumption) | exact Cm.nl1 (by with_reducible assumption) | exact Cm.ng1 (by with_reducible assumption) | exact Cm.nl2 (by with_reducible assumption) | exact Cm.ng2 (by with_reducible assumption) | exact Cm.nl3 (by with_reducible assumption) | exact Cm.ng3 (by with_reducible assumption) | exact Cm.nl4 (by with_reducible assumption) | exact Cm.ng4 (by with_reducible assumption) | exact Cm.nl5 (by with_reducible assumption) | exact Cm.ng5 (by with_reducible assumption) | exact Cm.nl6 (by with_reducible assumption) | exact Cm.ng6 (by with_reducible assumption) | exact Cm.nl7 (by with_reducible assumption) | exact Cm.ng7 (by with_reducible assumption) | exact Cm.nn1 (by with_reducible assumption) | exact Cm.nm1 (by with_reducible assumption) | exact Cm.nn2 (by with_reducible assumption) | exact Cm.nm2 (by with_reducible assumption) | exact Cm.nn3 (by with_reducible assumption) | exact Cm.nm3 (by with_reducible assumption) | exact Cm.nn4 (by with_reducible assumption) | exact Cm.nm4 (by with_reducible assumption) | exact Cm.nn5 (by with_reducible assumption) | exact Cm.nm5 (by with_reducible assumption) | omega)) ?_)) ?_)); intro hq tkq Fq Nq; (try k_sweep)) | (k_dflt (refine callWith_F (by walk_at "FnAt") ?_)) | ((with_reducible show wpAny _ _ (call (Value.builtin "len") [Value.bytes _ _]) _ _ _); (refine len_bytesN (by with_reducible assumption) (by decide) ?_); intro t9' k9') | ((with_reducible show wpAny _ _ (call (Value.builtin "_struct.unpack") _) _ _ _); ((first | refine unpack_locV (by with_reducible assumption) (by k_asm) (by k_asm) hl0 hl1 hl2 hl3 ?_ | refine Unp.unpack_rec (by with_reducible assumption) (by k_asm) (by k_asm) ?_); intros; (rename ∀ p : Addr × Obj, p ∈ _ → p.1 < _ => l1q); (have l9q := allLt_of l1q); (simp only [AllLt] at l9q); (try clear l1q); (try k_sweep))) | ((with_reducible show wpAny _ _ (call (Value.builtin "bytes.startswith") _) _ _ _); (first | refine starts_yes hd4 (by with_reducible assumption) ?_ | refine Unp.starts_call (c := [_, _, _, _]) (by (simp only [List.length_cons, List.length_nil]; omega)) ?_)) | ((refine' leave_raiseS ?kk1_35 ?kk0_35 ?kk2_35 ?kk3_35 ?_; (case kk0_35 => first | (first | with_reducible assumption | assumption) | exact Heap.MadeExc.of (by (first | with_reducible assumption | assumption))); (case kk2_35 => (first | with_reducible assumption | assumption)); (case kk1_35 => (first | with_reducible assumption | assumption)); (case kk3_35 => k_asm); k_whole; intro hq tq Sq Rq Uq; (try dsimp only at Sq Rq Uq ⊢))))) | (k_unfold; (try dsimp only)) | (k_end; wrow_close) | walk1 | (dsimp only; walk1) | (leave1; (try dsimp only))))
    · rename Fr h₀ L _ m => FG
      refine' hbad (fun hq => by omega) _ _ _ _ _ ?led1 ?R1 FG ?U1
      case U1 => (first | with_reducible assumption | assumption)
      case R1 => exact RaisedS.toSN (by (first | with_reducible assumption | assumption))
      case led1 => (refine' ⟨?r_36, _, ?w_36⟩; (case r_36 => repeat (first | exact fun _ h => h | with_reducible assumption | refine subT ?_)); (case w_36 => repeat (first | with_reducible assumption | exact List.Mem.head _ | refine memS ?_)))
    · rename Fr h₀ L _ m => FG
      refine' hbad (fun hq => by omega) _ _ _ _ _ ?led2 ?R2 FG ?U2
      case U2 => (first | with_reducible assumption | assumption)
      case R2 => exact RaisedS.toSN (by (first | with_reducible assumption | assumption))
      case led2 => (refine' ⟨?r_37, _, ?w_37⟩; (case r_37 => repeat (first | exact fun _ h => h | with_reducible assumption | refine subT ?_)); (case w_37 => repeat (first | with_reducible assumption | exact List.Mem.head _ | refine memS ?_)))
    · refine' hnew ⟨by omega, by omega⟩ _ _ _ _ _ _ _ _ _ _ _ _ ?led3 ?sp3 ?F3 ?N3
      case N3 => k_asm
      case F3 => k_asm
      case led3 => (refine' ⟨?r_38, _, ?w_38⟩; (case r_38 => repeat (first | exact fun _ h => h | with_reducible assumption | refine subT ?_)); (case w_38 => repeat (first | with_reducible assumption | exact List.Mem.head _ | refine memS ?_)))
      case sp3 => omega
end
end Mine02
end
namespace Mine02
theorem rest14 : True ∧ True := by w_top off; first | (walk1; all_goals trivial) | exact ⟨trivial, trivial⟩
end Mine02

section
namespace Mine02
open DivM Lp Bm
theorem bits_abs {a : Int} {m : Nat} (h0 : -(2 ^ m) < a) (h : a < 2 ^ m) : (Builtin.Int.intBits a : Int) ≤ m := by
  by_cases hp : 0 ≤ a
  · exact bits_le hp h
  · have : Builtin.Int.intBits a = Builtin.Int.intBits (-a) := by
      unfold Builtin.Int.intBits
      rw [Int.natAbs_neg]
      have e1 : (a == 0) = false := by simp; omega
      have e2 : ((-a) == 0) = false := by simp; omega
      rw [e1, e2]
    rw [this]
    exact bits_le (by omega) (by omega)
theorem my_lenL {prog : Program} {w : World} {A : Around} {E : Value → Shared → Prop} {s : Shared} {h₀ : Heap} {L : Addr} {news : List (Addr × Obj)} {l : Addr} {vs : Array Value} {c : Nat} {Q : Value → Shared → Prop}
    (N : News h₀ L s.heap news) (hm : (l, ({ cls := .type "list", data := .seq vs c } : Obj)) ∈ news) (hz : vs.size ≤ 16777216) (h : ∀ t k, Q (.int vs.size t) { s with toks := k }) :
    wpAny (model prog w) A (call (.builtin "len") [.ref l]) Q E s :=
  len_list ⟨_, (N _ hm).1, rfl, _, rfl⟩ (by omega) (h _ _)
theorem bits_of (a : Int) : -(2 ^ (Builtin.Int.intBits a)) < a ∧ a < 2 ^ (Builtin.Int.intBits a) := by
  by_cases h : a = 0
  · subst h
    exact ⟨by decide, by decide⟩
  · have e : Builtin.Int.intBits a = a.natAbs.log2 + 1 := by
      unfold Builtin.Int.intBits
      rw [show (a == 0) = false by simpa using h]
      rfl
    rw [e]
    have := Nat.lt_log2_self (n := a.natAbs)
    have h2 : (a.natAbs : Int) < 2 ^ (a.natAbs.log2 + 1) := by exact_mod_cast this
    omega
theorem bits_quot {a k : Int} (hk : 0 < k) : (Builtin.Int.intBits (a.fdiv k) : Int) ≤ Builtin.Int.intBits a := by
  rw [Int.fdiv_eq_ediv_of_nonneg _ (by omega)]
  have h := bits_of a
  have e := Int.mul_ediv_add_emod a k
  have r0 := Int.emod_nonneg a (b := k) (by omega)
  have r1 := Int.emod_lt_of_pos a hk
  refine bits_abs ?_ ?_
  · by_cases hq : 0 ≤ a / k
    · have := two_pow_pos (Builtin.Int.intBits a); omega
    · -- a / k ≥ a when negative
      have : k * (a / k) ≤ 1 * (a / k) := Int.mul_le_mul_of_nonpos_right (by omega) (by omega)
      have : a ≤ a / k := by
        by_cases h1 : 0 ≤ a
        · have := Int.ediv_nonneg h1 (by omega : 0 ≤ k); omega
        · have k1 : k * (a / k) ≤ a := by omega
          have := Int.le_ediv_of_mul_le hk (a := a) (b := a) (by
            have : a * k ≤ a * 1 := Int.mul_le_mul_of_nonpos_left (by omega) (by omega)
            omega)
          exact this
      omega
  · by_cases hq : 0 < a / k
    · have : 1 * (a / k) ≤ k * (a / k) := Int.mul_le_mul_of_nonneg_right (by omega) (by omega)
      omega
    · have := two_pow_pos (Builtin.Int.intBits a); omega
theorem my_mod {prog : Program} {w : World} {A : Around} {E : Value → Shared → Prop} {s : Shared} {a b : Int} {t u : Tok} {Q : Value → Shared → Prop} (h0 : 0 < b) (h : ∀ v : Int, v = a % b → 0 ≤ v → v < b → Q (.int v s.toks) { s with toks := s.toks + 1 }) :
    wpAny (model prog w) A (binaryOp .Mod (.int a t) (.int b u)) Q E s :=
  mod_int' (by omega) (h _ (Int.fmod_eq_emod_of_nonneg _ (by omega)) (Int.fmod_nonneg_of_pos _ h0) (Int.fmod_lt_of_pos _ h0))
theorem my_fdiv {prog : Program} {w : World} {A : Around} {E : Value → Shared → Prop} {s : Shared} {a b : Int} {t u : Tok} {Q : Value → Shared → Prop} (h0 : 0 < b) (hs : b < 1073741824) (h : ∀ v : Int, v = a / b → (Builtin.Int.intBits v : Int) ≤ Builtin.Int.intBits a → Q (.int v s.toks) { s with toks := s.toks + 1 }) :
    wpAny (model prog w) A (binaryOp .FloorDiv (.int a t) (.int b u)) Q E s :=
  floordiv_int (by omega) (h _ (Int.fdiv_eq_ediv_of_nonneg _ (by omega)) (bits_quot h0)) (.inl (PyProof.noPylong_small (by omega)))
/-- the ledger but for some places -/
def offL (all : List (Addr × Obj)) (as : List Nat) : List (Addr × Obj) := all.filter fun q => !(as.contains (q.1 : Nat))
theorem offL_mem {all : List (Addr × Obj)} {as : List Nat} {q : Addr × Obj} (h : q ∈ all) (hn : ∀ a ∈ as, @Ne Nat q.1 a) : q ∈ offL all as := by
  unfold offL
  rw [List.mem_filter]
  refine ⟨h, ?_⟩
  simp only [Bool.not_eq_true', List.contains_eq_mem, decide_eq_false_iff_not]
  exact fun hm => hn _ hm rfl
structure Off (nx news : List (Addr × Obj)) (as : List Nat) : Prop where
  sub : ∀ q ∈ news, q ∈ nx
  off : ∀ q ∈ nx, ∀ a ∈ as, @Ne Nat q.1 a
theorem offL_sub {all : List (Addr × Obj)} {as : List Nat} : ∀ q ∈ offL all as, q ∈ all := fun q hq => (List.mem_filter.mp hq).1
theorem offL_off {all news : List (Addr × Obj)} {as : List Nat} (h : ∀ q ∈ news, q ∈ all) (hn : ∀ q ∈ news, ∀ a ∈ as, @Ne Nat q.1 a) : Off (offL all as) news as :=
  ⟨fun q hq => offL_mem (h q hq) (hn q hq), fun q hq a ha e => by
    have := (List.mem_filter.mp hq).2
    simp only [Bool.not_eq_true', List.contains_eq_mem, decide_eq_false_iff_not] at this
    exact this (by rw [show (q.1 : Nat) = a from e]; exact ha)⟩
theorem i1_nil {x : Nat} : ∀ a ∈ ([] : List Nat), @Ne Nat x a := fun _ h => nomatch h
theorem i1_cons {x a : Nat} {as : List Nat} (h : @Ne Nat x a) (r : ∀ b ∈ as, @Ne Nat x b) : ∀ b ∈ a :: as, @Ne Nat x b := fun b hb => by
  cases hb with
  | head => exact h
  | tail _ hb => exact r b hb
theorem ine_nil {nx : List (Addr × Obj)} : ∀ q ∈ nx, ∀ a ∈ ([] : List Nat), @Ne Nat q.1 a := fun _ _ _ h => nomatch h
theorem ine_cons {nx : List (Addr × Obj)} {a : Addr} {as : List Nat} (h : ∀ q ∈ nx, q.1 ≠ a) (r : ∀ q ∈ nx, ∀ b ∈ as, @Ne Nat q.1 b) : ∀ q ∈ nx, ∀ b ∈ (a :: as : List Nat), @Ne Nat q.1 b := fun q hq b hb => by
  rcases List.mem_cons.mp hb with rfl | hb
  · exact h q hq
  · exact r q hq b hb
theorem off_one {nx news : List (Addr × Obj)} {as : List Nat} {a : Addr} (H : Off nx news as) (h : @Membership.mem Nat (List Nat) _ as a) : ∀ q ∈ nx, q.1 ≠ a := fun q hq => H.off q hq a h
theorem bits_add {a b B : Int} (ha : (Builtin.Int.intBits a : Int) ≤ B) (hb : (Builtin.Int.intBits b : Int) ≤ B) : (Builtin.Int.intBits (a + b) : Int) ≤ B + 1 := by
  have h1 := bits_of a
  have h2 := bits_of b
  obtain ⟨n, rfl⟩ := Int.eq_ofNat_of_zero_le (by omega : 0 ≤ B)
  have p1 : (2 : Int) ^ Builtin.Int.intBits a ≤ 2 ^ n := by exact_mod_cast Nat.pow_le_pow_right (by decide) (by omega : Builtin.Int.intBits a ≤ n)
  have p2 : (2 : Int) ^ Builtin.Int.intBits b ≤ 2 ^ n := by exact_mod_cast Nat.pow_le_pow_right (by decide) (by omega : Builtin.Int.intBits b ≤ n)
  have := bits_abs (a := a + b) (m := n + 1) (by rw [Int.pow_succ]; omega) (by rw [Int.pow_succ]; omega)
  omega
theorem lowL_succ (x : Int) (n : Nat) : lowL x (n + 1) = (x % 256).toNat.toUInt8 :: lowL (x / 256) n := by
  unfold lowL
  rw [List.range_succ_eq_map, List.map_cons, List.map_map]
  congr 1
  · simp
  · refine List.map_congr_left fun i _ => ?_
    show (x / 2 ^ (8 * (i + 1)) % 256).toNat.toUInt8 = (x / 256 / 2 ^ (8 * i) % 256).toNat.toUInt8
    rw [Int.ediv_ediv_of_nonneg (by omega), show 8 * (i + 1) = 8 + 8 * i by omega, Int.pow_add]
    rfl
theorem mod_step (x m : Int) (h : 0 < m) : x / 256 % m * 256 + x % 256 = x % (256 * m) := by
  have a := Int.mul_ediv_add_emod (x / 256) m
  have b := Int.mul_ediv_add_emod x 256
  have c := Int.emod_nonneg (x / 256) (b := m) (by omega)
  have d := Int.emod_lt_of_pos (x / 256) h
  refine ((DivM.ediv_of (a := x) (b := 256 * m) (q := x / 256 / m) (r := x / 256 % m * 256 + x % 256) ?_ (by omega) (by omega)).2).symm
  have e : x / 256 / m * (256 * m) = 256 * (m * (x / 256 / m)) := by
    rw [Int.mul_comm (x / 256 / m), Int.mul_assoc]
  rw [e]
  omega
theorem leN_low (n : Nat) : ∀ x : Int, (Unp.leN (lowL x n) : Int) = x % 2 ^ (8 * n) := by
  induction n with
  | zero => intro x; simp [lowL, Unp.leN, Int.emod_one]
  | succ n ih =>
    intro x
    rw [lowL_succ]
    show (((Unp.leN (lowL (x / 256) n)) * 256 + ((x % 256).toNat.toUInt8).toNat : Nat) : Int) = _
    have e : ((x % 256).toNat.toUInt8).toNat = (x % 256).toNat := by
      rw [Nat.toUInt8, UInt8.toNat_ofNat']
      omega
    rw [e, Int.natCast_add, Int.natCast_mul, ih, show 8 * (n + 1) = 8 + 8 * n by omega, Int.pow_add, show ((2 : Int) ^ 8) = 256 from rfl, ← mod_step _ _ (two_pow_pos _)]
    omega
theorem sl_app {A B C : List UInt8} {i j : Nat} (ha : A.length = i) (hb : B.length = j - i) : Unp.sl (A ++ (B ++ C)) i j = (Unp.leN B : Nat) := by
  unfold Unp.sl
  rw [List.drop_left' ha, List.take_left' hb]
theorem sl_low {A C : List UInt8} {x : Int} {i j n : Nat} (ha : A.length = i) (hb : n = j - i) (h0 : 0 ≤ x) (h1 : x < 2 ^ (8 * n)) : Unp.sl (A ++ (lowL x n ++ C)) i j = x := by
  rw [sl_app ha (by rw [lowL_length, hb]), leN_low, Int.emod_eq_of_lt h0 h1]
end Mine02
end
namespace Mine02
theorem rest15 : True ∧ True := by w_top off; first | (walk1; all_goals trivial) | exact ⟨trivial, trivial⟩
end Mine02

section
open PySem.Calls PyProof.V PySem.Spec
namespace Lp
section
variable {prog : Program} {w : World} {A : Around} {E : Value → Shared → Prop} {s : Shared} {env : Env} {h₀ : Heap} {target : Expr} {body : List Stmt} {Q : Flow → Shared → Prop}
/-- a loop over bytes -/
theorem bytes_turns {b : Array UInt8} {tb : Tok} {m : Str → Option Value} {news : List (Addr × Obj)} {x : Str} {px : Pos}
    (hh : A.handled = none) (F : Fr h₀ env.locals s.heap m) (N : News h₀ env.locals s.heap news)
    (J : Nat → (Str → Option Value) → List (Addr × Obj) → Prop) (h0 : J 0 m news)
    (turn : ∀ I i (c : UInt8) t m₁ news₁ h₁ tk₁ it, i < b.size → b[i]? = some c → J i m₁ news₁ → (∀ p ∈ news₁, p.1 ≠ I) → Fr h₀ env.locals h₁ m₁ → News h₀ env.locals h₁ ((I, it) :: news₁) →
      wpAny (model prog w) A (assign (.Name x px) env (.int (c.toNat : Int) t)) (fun _ s₃ => wpAny (model prog w) A (execs body env) (TurnPost h₀ env.locals s I it (J (i + 1)) Q) E s₃) E { s with heap := h₁, toks := tk₁ })
    (done : ∀ h' tk m' news', J b.size m' news' → Fr h₀ env.locals h' m' → News h₀ env.locals h' news' → Q .next { s with heap := h', toks := tk }) :
    wpAny (model prog w) A (pyIter (.bytes b tb)) (fun it s₂ => TurnsAt prog w A h₀ env (.Name x px) body Q E it s₂) E s := by
  refine KBw.pyIter_bytes ?_
  refine turns_core (s := { s with heap := s.heap.push _ }) (la := none) (KBw.walks hh s.heap.objs.size b tb) (fun b hb => .inl (List.mem_singleton.mp hb)) (fun i v s Q E _ q => wpAny_pure q) ?_ (next_is_new F) (fun i h st => ⟨_, st.choose_spec.1⟩) (fun q i h e => nomatch e)
    ⟨_, Heap.get?_push_size _ rfl, rfl, rfl⟩ (F.push _) (fun p hp => ⟨Heap.get?_push_of_some _ (N p hp).1, (N p hp).2⟩) (fun p hp e => absurd (Heap.lt_size (N p hp).1) (e ▸ Nat.lt_irrefl _))
    J h0 (fun q i m n e => nomatch e) (fun i v m₁ news₁ h₁ tk₁ it hi hP hj ho F₁ N₁ => ?_) done
  · intro hI
    exact absurd F.ns.lt ((List.mem_singleton.mp hI) ▸ Nat.lt_irrefl _)
  · obtain ⟨c, t, hc, rfl⟩ := hP
    exact turn s.heap.objs.size i c t m₁ news₁ h₁ tk₁ it hi hc hj ho F₁ N₁
/-- the end of a turn of a loop whose ground may turn too -/
def GroundPost (P : Heap → Prop) (L : Addr) (s : Shared) (I : Addr) (it : Obj) (J : Heap → (Str → Option Value) → List (Addr × Obj) → Prop) (Q : Flow → Shared → Prop) (f : Flow) (s₃ : Shared) : Prop :=
  match f with
  | .ret v => Q (.ret v) s₃
  | .brk => Q .next s₃
  | _ => ∃ g' h' tk' m' news', s₃ = { s with heap := h', toks := tk' } ∧ P g' ∧ Fr g' L h' m' ∧ News g' L h' ((I, it) :: news') ∧ (∀ p ∈ news', p.1 ≠ I) ∧ J g' m' news'
/-- a loop over a range of any step, whose ground may turn (a try within) -/
theorem For_ground {iter : Expr} {pos : Pos} {x : Str} {px : Pos} {a c : Int} {n : Nat} (P : Heap → Prop) (J : Nat → Heap → (Str → Option Value) → List (Addr × Obj) → Prop) (hh : A.handled = none)
    (h : wpAny (model prog w) A (eval iter env) (fun xv s₁ => ∃ r b t u v g m news h' tk', xv = .ref r ∧ s₁ = { s with heap := h', toks := tk' } ∧ IsRange h' r a b c t u v ∧ Builtin.Range.small a b c = true ∧ Builtin.Range.rangeSize a b c = ((n : Nat) : Int) ∧ P g ∧ Fr g env.locals h' m ∧ News g env.locals h' news ∧ J 0 g m news) E s)
    (turn : ∀ I i t g₁ m₁ news₁ h₁ tk₁ it, i < n → P g₁ → J i g₁ m₁ news₁ → (∀ p ∈ news₁, p.1 ≠ I) → Fr g₁ env.locals h₁ m₁ → News g₁ env.locals h₁ ((I, it) :: news₁) →
      wpAny (model prog w) A (assign (.Name x px) env (.int (a + (i : Int) * c) t)) (fun _ s₃ => wpAny (model prog w) A (execs body env) (GroundPost P env.locals s I it (J (i + 1)) Q) E s₃) E { s with heap := h₁, toks := tk₁ })
    (done : ∀ g' h' tk m' news', P g' → J n g' m' news' → Fr g' env.locals h' m' → News g' env.locals h' news' → Q .next { s with heap := h', toks := tk })
    (hs : ∀ x, foldedSetIterable iter env x = pure x := by intro _; rfl) (hE : PassesOwn (model prog w) A env E := by passes_own) :
    wpAny (model prog w) A (exec (.For (.Name x px) iter body [] pos) env) Q E s := by
  refine wpAny_For (wpAny_mono h (fun xv s₁ h₁ => ?_) fun _ _ e => e) hs
  obtain ⟨r, b, t, u, v, g, m, news, h', tk', rfl, rfl, hr, hsmall, hn, hP, F, N, hJ⟩ := h₁
  refine wpAny_pyIter_range hr hsmall ?_
  have W : Walks prog w A h'.objs.size [h'.objs.size] [h'.objs.size] n (fun i v => i < n ∧ ∃ t, v = .int (a + i * c) t)
      (fun i h => IsRangeIter h h'.objs.size (a + (i : Nat) * c) ((n : Int) - (i : Nat)) c) := (Walks.range hh _ a c n).bound
  show codeAny (model prog w) A (.forLoop (.Name x px) (.ref h'.objs.size) body [] env) _ { s with heap := h'.push _, toks := tk' }
  refine codeAny_forLoop_any
    (fun k s' => ∃ h₂ tk₂ g₂ m₂ news₂ it i, s' = { s with heap := h₂, toks := tk₂ } ∧ IsRangeIter h₂ h'.objs.size (a + (i : Nat) * c) ((n : Int) - (i : Nat)) c ∧ P g₂ ∧ Fr g₂ env.locals h₂ m₂ ∧ News g₂ env.locals h₂ ((h'.objs.size, it) :: news₂) ∧ (∀ p ∈ news₂, p.1 ≠ h'.objs.size) ∧ J i g₂ m₂ news₂ ∧ i ≤ n ∧ k = n + 1 - i) ?_ (n + 1)
    ⟨_, _, g, m, news, { cls := .type "range_iterator", data := .fields #[rawInt a, rawInt (Builtin.Range.rangeSize a b c), rawInt c] }, 0, rfl, by show IsRangeIter _ _ _ _ _; rw [hn]; simpa using Heap.get?_push_size _ rfl, hP, F.push _, fun p hp => ?_, fun p hp e => absurd (Heap.lt_size (N p hp).1) (e ▸ Nat.lt_irrefl _), hJ, Nat.zero_le _, rfl⟩
  · rintro k s' ⟨h₂, tk₂, g₂, m₂, news₂, it, i, rfl, hst, hP₂, F₂, N₂, hoff, hJ₂, hi, rfl⟩
    have hI := N₂ (h'.objs.size, it) (.head _)
    have old : ∀ b o, g₂.get? b = some o → b ∉ [h'.objs.size] := fun b o e hb => by
      have := hI.2.2
      rw [List.mem_singleton.mp hb] at e
      dsimp only at this
      rw [this] at e
      cases e
    have hL : env.locals ∉ [h'.objs.size] := fun hb => hI.2.1 (List.mem_singleton.mp hb).symm
    have next : ∀ h₃ : Heap, (∀ b o, b ∉ [h'.objs.size] → h₂.get? b = some o → h₃.get? b = some o) → Fr g₂ env.locals h₃ m₂ ∧ News g₂ env.locals h₃ news₂ := fun h₃ hk =>
      ⟨⟨F₂.ns.at' fun o e => hk _ o hL e, fun b o e => hk b o (old b o e) (F₂.keep b o e), F₂.above⟩, fun p hp => ⟨hk _ _ (fun hb => hoff p hp (List.mem_singleton.mp hb)) (N₂ p (.tail _ hp)).1, (N₂ p (.tail _ hp)).2⟩⟩
    by_cases hlt : i < n
    · refine W.item i _ _ _ hlt hst fun v h₃ tk₃ hPv hst₃ hk₃ => ?_
      obtain ⟨_, t, rfl⟩ := hPv
      refine wpAny_pure ?_
      obtain ⟨F₃, N₃⟩ := next h₃ hk₃
      obtain ⟨it₃, hst₄, hit₃⟩ : ∃ it₃, h₃.get? h'.objs.size = some it₃ ∧ ∀ h₅ : Heap, h₅.get? h'.objs.size = some it₃ → IsRangeIter h₅ h'.objs.size (a + ((i + 1 : Nat) : Nat) * c) ((n : Int) - ((i + 1 : Nat) : Nat)) c := ⟨_, hst₃, fun _ e => e⟩
      refine wpAny_mono (turn h'.objs.size i t g₂ m₂ news₂ h₃ tk₃ it₃ hlt hP₂ hJ₂ hoff F₃ (fun p hp => ?_)) (fun _ s₃ h₃ => wpAny_mono h₃ (fun f s₄ h₄ => ?_) fun e s' he => hE e s' he) fun e s' he => hE e s' he
      · rcases List.mem_cons.mp hp with rfl | hp
        · exact ⟨hst₄, hI.2⟩
        · exact N₃ p hp
      have fin : (∃ g' h₆ tk' m' news', s₄ = { s with heap := h₆, toks := tk' } ∧ P g' ∧ Fr g' env.locals h₆ m' ∧ News g' env.locals h₆ ((h'.objs.size, it₃) :: news') ∧ (∀ p ∈ news', p.1 ≠ h'.objs.size) ∧ J (i + 1) g' m' news') → _ := fun ⟨g', h₅, tk₅, m₅, news₅, e5, P5, F5, N5, o5, J5⟩ =>
        (⟨n + 1 - (i + 1), by omega, h₅, tk₅, g', m₅, news₅, it₃, i + 1, e5, hit₃ _ (N5 _ (.head _)).1, P5, F5, N5, o5, J5, hlt, rfl⟩ : ∃ mm, mm < n + 1 - i ∧ ∃ h₂ tk₂ g₂ m₂ news₂ it i, s₄ = { s with heap := h₂, toks := tk₂ } ∧ IsRangeIter h₂ h'.objs.size (a + (i : Nat) * c) ((n : Int) - (i : Nat)) c ∧ P g₂ ∧ Fr g₂ env.locals h₂ m₂ ∧ News g₂ env.locals h₂ ((h'.objs.size, it) :: news₂) ∧ (∀ p ∈ news₂, p.1 ≠ h'.objs.size) ∧ J i g₂ m₂ news₂ ∧ i ≤ n ∧ mm = n + 1 - i)
      cases f with
      | ret v => exact h₄
      | brk => exact h₄
      | next => exact fin h₄
      | cont => exact fin h₄
    · have hin : i = n := by omega
      subst hin
      refine W.done _ _ _ hst fun h₃ tk₃ hk₃ => wpAny_execs_nil ?_
      obtain ⟨F₃, N₃⟩ := next h₃ hk₃
      exact done g₂ h₃ tk₃ m₂ news₂ hP₂ hJ₂ F₃ N₃
  · rcases List.mem_cons.mp hp with rfl | hp
    · refine ⟨Heap.get?_push_size _ rfl, fun e => ?_, next_is_new F⟩
      exact absurd F.ns.lt (e ▸ Nat.lt_irrefl _)
    · exact ⟨Heap.get?_push_of_some _ (N p hp).1, (N p hp).2⟩
end
end Lp
end
namespace Mine02
theorem rest16 : True ∧ True := by w_top off; first | (walk1; all_goals trivial) | exact ⟨trivial, trivial⟩
end Mine02

section
namespace Mine02
open DivM Lp Bm

/-- a Zip64 record -/
def recL (f0 f1 f2 f3 f4 f5 : Int) : List UInt8 :=
  [80, 75, 6, 6] ++ lowL 44 8 ++ [45, 0, 45, 0] ++ lowL f0 4 ++ lowL f1 4 ++ lowL f2 8 ++ lowL f3 8 ++ lowL f4 8 ++ lowL f5 8
/-- what ends an archive: record, locator, end record -/
def tailL (f0 f1 f2 f3 f4 f5 c : Int) : List UInt8 :=
  recL f0 f1 f2 f3 f4 f5 ++ [80, 75, 6, 7] ++ lowL 0 4 ++ lowL c 8 ++ lowL 1 4 ++ [80, 75, 5, 6, 0, 0, 0, 0] ++ List.replicate 12 255 ++ [0, 0]
theorem rec_len {f0 f1 f2 f3 f4 f5 : Int} : (recL f0 f1 f2 f3 f4 f5).length = 56 := by simp [recL, lowL_length]
theorem tail_len {f0 f1 f2 f3 f4 f5 c : Int} : (tailL f0 f1 f2 f3 f4 f5 c).length = 98 := by simp [tailL, rec_len, lowL_length]
/-- the like bytes ahead -/
def fillL (o a : Int) : List UInt8 := List.replicate a.toNat o.toNat.toUInt8
theorem fill_len {o a : Int} : (fillL o a).length = a.toNat := by simp [fillL]
theorem fill_be {o a : Int} (h0 : 0 ≤ o) (h1 : o < 256) : beN (fillL o a) = o * (256 ^ a.toNat - 1) / 255 := by
  unfold fillL
  rw [be_rep, show ((o.toNat.toUInt8.toNat : Nat) : Int) = o by rw [Nat.toUInt8, UInt8.toNat_ofNat']; omega]
theorem be_bits (l : List UInt8) : (Builtin.Int.intBits (beN l) : Int) ≤ 8 * l.length := by
  have := bits_le (m := 8 * l.length) (be_nn l).1 (by rw [pow_8]; exact (be_nn l).2)
  exact_mod_cast this
theorem pow_bits1 (n : Nat) : (Builtin.Int.intBits ((256 : Int) ^ n - 1) : Int) ≤ 8 * n := by
  have h := pow256_pos n
  have := bits_le (a := (256 : Int) ^ n - 1) (m := 8 * n) (by omega) (by rw [pow_8]; omega)
  exact_mod_cast this
theorem be_take {l : List UInt8} {i : Nat} {c : UInt8} (h : l.toArray[i]? = some c) (r : List UInt8) : beN (r ++ l.take (i + 1)) = beN (r ++ l.take i) * 256 + (c.toNat : Int) := by
  have h' : l[i]? = some c := by simpa using h
  rw [List.take_add_one, h', Option.toList_some, ← List.append_assoc, be_snoc]
theorem two_nm {g h : Heap} {L : Addr} {m : Str → Option Value} (_F : Fr g L h m) {x y : Str} {b : Array UInt8} {n : Int} {td tn : Tok} (M : NmAre m [(x, .bytes b td), (y, .int n tn)]) : ∃ td tn, NmAre m [(x, .bytes b td), (y, .int n tn)] := ⟨td, tn, M⟩
theorem stLo3b {M A Q E s y0 y1 y2 y3 y4} (h : Blk (wpAny M A (subscriptTail y0 y1 (Value.ref y2) (Value.int y3 y4)) Q E s)) : wpAny M A (subscriptTail y0 y1 (Value.ref y2) (Value.int y3 y4)) Q E s := h
theorem stLo2b {M A Q E s y0} (h : Blk (wpAny M A (call (Value.ref 130) y0) Q E s)) : wpAny M A (call (Value.ref 130) y0) Q E s := h
local macro_rules | `(tactic| walk_at "call ref") => `(tactic| with_reducible refine stLo2b ?_)
local macro_rules | `(tactic| walk_at "binaryOp Add bytes bytes") => `(tactic| refine Blk.out ?_)
local macro_rules | `(tactic| walk_at "subscriptTail") => `(tactic| with_reducible refine stLo3b ?_)
local macro_rules | `(tactic| walk_at "UnrEnd") => `(tactic| (refine my_unrEnd (by k_asm) (by k_asm) (by k_asm) ?_))
local macro_rules | `(tactic| walk_at "binaryOp Pow int int") => `(tactic| refine Blk.out ?_)
local macro_rules | `(tactic| walk_at "binaryOp Mult int int") => `(tactic| refine Blk.out ?_)
local macro_rules | `(tactic| walk_at "binaryOp FloorDiv int int") => `(tactic| refine Blk.out ?_)
local macro_rules | `(tactic| walk_at "exec For Name Name cons nil") => `(tactic| refine Blk.out ?_)
local macro_rules | `(tactic| walk_at "pyIter bytes") => `(tactic| refine Blk.out ?_)
section
variable {prog : Program} {w : World} {p : Program} {loose : List Str} {mean : ExcName → Option Value} {mg mb : Str → Option Value}
  {dp un : Nat} {gd : Option (List Code)} {cn : Str} {cs : Scope} {ad : Addr} {ccd : Value} {cl : List (Str × Addr)} {outer : List Env} {A₀ : Around} {base h₀ : Heap} {L : Addr} {m : Str → Option Value} {news : List (Addr × Obj)} {s : Shared} {Q E : Value → Shared → Prop}
theorem archive_call {o a f0 f1 f2 f3 f4 f5 : Int} {to ta t0 t1 t2 t3 t4 t5 : Tok} {lf : Addr} {c : Nat} (ho0 : 0 ≤ o) (ho1 : o < 256) (ha0 : 0 ≤ a) (ha1 : a ≤ 60000) (H : Here w p loose mean mg mb 1 dp un cs outer A₀ base h₀ L m news s.heap)
    (hl : (lf, ({ cls := .type "list", data := .seq #[.int f0 t0, .int f1 t1, .int f2 t2, .int f3 t3, .int f4 t4, .int f5 t5] c } : Obj)) ∈ news)
    (hret : ∀ t h' tk', Fr h₀ L h' m → News h₀ L h' news → Q (.int (beN (fillL o a ++ tailL f0 f1 f2 f3 f4 f5 a)) t) { s with heap := h', toks := tk' }) :
    wpAny (model prog w) (ktrTop dp un gd cn cs L ad ccd cl outer) (call (.ref 137) [.int o to, .int a ta, .ref lf]) Q E s := by
  obtain ⟨B, F, X, N, T, hk, hd, hu⟩ := H
  have hmb : (Builtin.Int.intBits o : Int) + Builtin.Int.intBits ((256 : Int) ^ a.toNat - 1) ≤ 2 ^ 27 := by
    have h1 := bits_le (a := o) (m := 8) ho0 (by omega)
    have h2 := pow_bits1 a.toNat
    omega
  refine wpAny_call ?_
  k_dflt ((refine' code_def ?k1_39 ?k2_39 ?k3_39 ?k4_39 ?k5_39 ?kA_39 ?kF_39 ?kK_39 ?k6_39 ?k7_39 ?k8_39 ?k9_39 ?kB_39 ?_ ?c2_39 ?c3_39 ?c4_39 ?c5_39; (case kA_39 => exact rfl); (case kF_39 => exact rfl); (case kK_39 => first | exact rfl | (first | with_reducible assumption | assumption)); (case k1_39 => k_asm); (case k2_39 => k_asm); (case k3_39 => k_asm); (case k4_39 => k_asm); (case k5_39 => k_asm); (case k6_39 => k_is); (case k7_39 => k_is); (case k8_39 => ktr_room); (case k9_39 => first | exact BindsTo.of_eq rfl | exact binds_K (by k_in) rfl (by k_is) rfl rfl rfl); (case c5_39 => decide); (case kB_39 => exact locs rfl); (case c2_39 => exact rfl); (case c3_39 => exact rfl); (case c4_39 => exact rfl); k_whole; intro g' L' h' FG' F' N' B' X' T'; (try dsimp only); (try k_lift B'); (try k_fold)))
  (repeat' (first | ((with_reducible refine Blk.into ?_); (first | ((with_reducible show wpAny _ _ (binaryOp .Pow (Value.int 256 _) (Value.int _ _)) _ _ _); (refine pow_int_small (by omega) (by omega) (by decide) ?_)) | ((with_reducible show wpAny _ _ (binaryOp .Mult (Value.int _ _) (Value.int _ _)) _ _ _); (refine my_mul (by first | with_reducible exact hmb | with_reducible exact hm2 | omega) ?_)) | ((with_reducible show wpAny _ _ (binaryOp .FloorDiv (Value.int _ _) (Value.int _ _)) _ _ _); (refine my_fdiv (by decide) (by decide) ?_); intro q9 eq9 bq9) | (with_reducible ((show wpAny _ _ (call (Value.ref 130) _) _ _ _); k_dflt (refine low_call (by omega) (by exact ⟨by k_asm, by k_asm, by k_asm, by k_asm, by k_asm, by first | exact rfl | (first | with_reducible assumption | assumption), by (simp only [depth_deeper, depth_in1, ktrTop]; omega), by (simp only [units_deeper, units_in1, ktrTop]; omega)⟩) ?_); intro t' h' tk' F' N'; (try k_sweep))) | (with_reducible ((show wpAny _ _ (binaryOp .Add (Value.bytes _ _) (Value.bytes _ _)) _ _ _); ((first | (with_reducible refine my_badd ?_ ?_) | refine my_badd (b := [_, _, _, _]) ?_ ?_ | refine my_badd ?_ ?_); · (simp only [List.length_append, lowL_length, List.length_cons, List.length_nil]; omega)); intro t' tk')) | (with_reducible ((show wpAny _ _ (subscriptTail _ _ (Value.ref _) (Value.int _ _)) _ _ _); k_dflt (refine my_item (by k_asm) (by k_mem) (by decide) (by decide) (by with_unfolding_all rfl) ?_ (by with_unfolding_all rfl)))))) | (k_unfold; (try dsimp only)) | (k_end; wrow_close) | walk1 | (dsimp only; walk1) | (leave1; (try dsimp only))))
  refine Blk.into ?_
  rename Fr g' L' _ _ => FW
  rename News g' L' _ _ => NW
  obtain ⟨td, tn, MW⟩ := two_nm FW (x := "data") (y := "number") (b := (tailL f0 f1 f2 f3 f4 f5 a).toArray) (n := q9) (by repeat (first | exact nm_nil | refine nm_cons (by with_unfolding_all rfl) ?_))
  with_reducible refine fr_fold FW MW ?_
  clear FW
  intro mm FW
  with_unfolding_all refine' For_turns FW ?h ?hs ?hE
  case hs => intro _; rfl
  case hE => first | passes_own | with_unfolding_all passes_own
  (repeat' (first | ((with_reducible refine Blk.into ?_); (first | ((with_reducible show wpAny _ _ (binaryOp .Pow (Value.int 256 _) (Value.int _ _)) _ _ _); (refine pow_int_small (by omega) (by omega) (by decide) ?_)) | ((with_reducible show wpAny _ _ (binaryOp .Mult (Value.int _ _) (Value.int _ _)) _ _ _); (refine my_mul (by first | with_reducible exact hmb | with_reducible exact hm2 | omega) ?_)) | ((with_reducible show wpAny _ _ (binaryOp .FloorDiv (Value.int _ _) (Value.int _ _)) _ _ _); (refine my_fdiv (by decide) (by decide) ?_); intro q9 eq9 bq9) | (with_reducible ((show wpAny _ _ (call (Value.ref 130) _) _ _ _); k_dflt (refine low_call (by omega) (by exact ⟨by k_asm, by k_asm, by k_asm, by k_asm, by k_asm, by first | exact rfl | (first | with_reducible assumption | assumption), by (simp only [depth_deeper, depth_in1, ktrTop]; omega), by (simp only [units_deeper, units_in1, ktrTop]; omega)⟩) ?_); intro t' h' tk' F' N'; (try k_sweep))) | (with_reducible ((show wpAny _ _ (binaryOp .Add (Value.bytes _ _) (Value.bytes _ _)) _ _ _); ((first | (with_reducible refine my_badd ?_ ?_) | refine my_badd (b := [_, _, _, _]) ?_ ?_ | refine my_badd ?_ ?_); · (simp only [List.length_append, lowL_length, List.length_cons, List.length_nil]; omega)); intro t' tk')) | (with_reducible ((show wpAny _ _ (subscriptTail _ _ (Value.ref _) (Value.int _ _)) _ _ _); k_dflt (refine my_item (by k_asm) (by k_mem) (by decide) (by decide) (by with_unfolding_all rfl) ?_ (by with_unfolding_all rfl)))))) | (k_unfold; (try dsimp only)) | (k_end; wrow_close) | walk1 | (dsimp only; walk1) | (leave1; (try dsimp only))))
  refine Blk.into ?_
  rename Fr g' L' _ _ => FW
  have e0 : q9 = beN (fillL o a ++ (tailL f0 f1 f2 f3 f4 f5 a).take 0) := by rw [List.take_zero, List.append_nil, fill_be ho0 ho1, eq9]
  have lenF := fill_len (o := o) (a := a)
  have lenT := tail_len (f0 := f0) (f1 := f1) (f2 := f2) (f3 := f3) (f4 := f4) (f5 := f5) (c := a)
  refine' bytes_turns rfl FW NW (fun (i : Nat) m₁ n₁ => n₁ = news ∧ ∃ tn, NmAre m₁ [("number", .int (beN (fillL o a ++ (tailL f0 f1 f2 f3 f4 f5 a).take i)) tn)]) ?h0 ?turn ?done
  case h0 =>
    rw [← e0]
    exact ⟨rfl, _, by repeat (first | exact nm_nil | refine nm_cons (by with_unfolding_all rfl) ?_)⟩
  case turn =>
    rintro I i b t m₁ n₁ h₁ tk₁ it hi hb ⟨rfl, tn', Mx⟩ hoff Fx Nx
    clear FW NW
    with_reducible refine fr_fold Fx Mx ?_
    clear Fx
    intro mm Fx
    have hm2 : (Builtin.Int.intBits (beN (fillL o a ++ (tailL f0 f1 f2 f3 f4 f5 a).take i)) : Int) + Builtin.Int.intBits 256 ≤ 2 ^ 27 := by
      have h1 := be_bits (fillL o a ++ (tailL f0 f1 f2 f3 f4 f5 a).take i)
      rw [List.length_append, List.length_take] at h1
      have h2 : (Builtin.Int.intBits 256 : Int) ≤ 9 := by decide
      omega
    have ex := be_take (r := fillL o a) hb
    (repeat' (first | ((with_reducible refine Blk.into ?_); (first | ((with_reducible show wpAny _ _ (binaryOp .Pow (Value.int 256 _) (Value.int _ _)) _ _ _); (refine pow_int_small (by omega) (by omega) (by decide) ?_)) | ((with_reducible show wpAny _ _ (binaryOp .Mult (Value.int _ _) (Value.int _ _)) _ _ _); (refine my_mul (by first | with_reducible exact hmb | with_reducible exact hm2 | omega) ?_)) | ((with_reducible show wpAny _ _ (binaryOp .FloorDiv (Value.int _ _) (Value.int _ _)) _ _ _); (refine my_fdiv (by decide) (by decide) ?_); intro q9 eq9 bq9) | (with_reducible ((show wpAny _ _ (call (Value.ref 130) _) _ _ _); k_dflt (refine low_call (by omega) (by exact ⟨by k_asm, by k_asm, by k_asm, by k_asm, by k_asm, by first | exact rfl | (first | with_reducible assumption | assumption), by (simp only [depth_deeper, depth_in1, ktrTop]; omega), by (simp only [units_deeper, units_in1, ktrTop]; omega)⟩) ?_); intro t' h' tk' F' N'; (try k_sweep))) | (with_reducible ((show wpAny _ _ (binaryOp .Add (Value.bytes _ _) (Value.bytes _ _)) _ _ _); ((first | (with_reducible refine my_badd ?_ ?_) | refine my_badd (b := [_, _, _, _]) ?_ ?_ | refine my_badd ?_ ?_); · (simp only [List.length_append, lowL_length, List.length_cons, List.length_nil]; omega)); intro t' tk')) | (with_reducible ((show wpAny _ _ (subscriptTail _ _ (Value.ref _) (Value.int _ _)) _ _ _); k_dflt (refine my_item (by k_asm) (by k_mem) (by decide) (by decide) (by with_unfolding_all rfl) ?_ (by with_unfolding_all rfl)))))) | (k_unfold; (try dsimp only)) | (k_end; wrow_close) | walk1 | (dsimp only; walk1) | (leave1; (try dsimp only))))
    refine ⟨_, _, _, _, rfl, by k_asm, by k_asm, hoff, rfl, _, by rw [ex]; repeat (first | exact nm_nil | refine nm_cons (by with_unfolding_all rfl) ?_)⟩
  case done =>
    rintro h' tk m₁ n₁ ⟨rfl, tn', Mx⟩ Fx Nx
    clear FW NW
    with_reducible refine fr_fold Fx Mx ?_
    clear Fx
    intro mm Fx
    (repeat' (first | ((with_reducible refine Blk.into ?_); (first | ((with_reducible show wpAny _ _ (binaryOp .Pow (Value.int 256 _) (Value.int _ _)) _ _ _); (refine pow_int_small (by omega) (by omega) (by decide) ?_)) | ((with_reducible show wpAny _ _ (binaryOp .Mult (Value.int _ _) (Value.int _ _)) _ _ _); (refine my_mul (by first | with_reducible exact hmb | with_reducible exact hm2 | omega) ?_)) | ((with_reducible show wpAny _ _ (binaryOp .FloorDiv (Value.int _ _) (Value.int _ _)) _ _ _); (refine my_fdiv (by decide) (by decide) ?_); intro q9 eq9 bq9) | (with_reducible ((show wpAny _ _ (call (Value.ref 130) _) _ _ _); k_dflt (refine low_call (by omega) (by exact ⟨by k_asm, by k_asm, by k_asm, by k_asm, by k_asm, by first | exact rfl | (first | with_reducible assumption | assumption), by (simp only [depth_deeper, depth_in1, ktrTop]; omega), by (simp only [units_deeper, units_in1, ktrTop]; omega)⟩) ?_); intro t' h' tk' F' N'; (try k_sweep))) | (with_reducible ((show wpAny _ _ (binaryOp .Add (Value.bytes _ _) (Value.bytes _ _)) _ _ _); ((first | (with_reducible refine my_badd ?_ ?_) | refine my_badd (b := [_, _, _, _]) ?_ ?_ | refine my_badd ?_ ?_); · (simp only [List.length_append, lowL_length, List.length_cons, List.length_nil]; omega)); intro t' tk')) | (with_reducible ((show wpAny _ _ (subscriptTail _ _ (Value.ref _) (Value.int _ _)) _ _ _); k_dflt (refine my_item (by k_asm) (by k_mem) (by decide) (by decide) (by with_unfolding_all rfl) ?_ (by with_unfolding_all rfl)))))) | (k_unfold; (try dsimp only)) | (k_end; wrow_close) | walk1 | (dsimp only; walk1) | (leave1; (try dsimp only))))
    have := hret tn'
    rw [show (tailL f0 f1 f2 f3 f4 f5 a).take (tailL f0 f1 f2 f3 f4 f5 a).toArray.size = tailL f0 f1 f2 f3 f4 f5 a by rw [List.size_toArray]; exact List.take_length]
    exact this _ _ (by with_reducible assumption) (by with_reducible assumption)
end
end Mine02
end
namespace Mine02
theorem rest17 : True ∧ True := by w_top off; first | (walk1; all_goals trivial) | exact ⟨trivial, trivial⟩
end Mine02

section
namespace Mine02
open DivM Lp Bm

/-- an archive as it is drawn -/
structure Arc where
  bg : Int
  ah : Int
  o : Int
  f0 : Int
  f1 : Int
  f2 : Int
  f3 : Int
  ln : Int
def Arc.tail (a : Arc) : List UInt8 := tailL a.f0 a.f1 a.f2 a.f3 a.ln (a.ah - a.ln) a.ah
def Arc.bytes (a : Arc) : List UInt8 := fillL a.o a.ah ++ a.tail
structure ArcOk (a : Arc) : Prop where
  o0 : 0 ≤ a.o
  o1 : a.o < 256
  a0 : 0 ≤ a.f0 ∧ a.f0 < 16777216
  a1 : 0 ≤ a.f1 ∧ a.f1 < 16777216
  a2 : 0 ≤ a.f2 ∧ a.f2 < 16777216
  a3 : 0 ≤ a.f3 ∧ a.f3 < 16777216
  l0 : 0 ≤ a.ln
  l1 : a.ln ≤ a.ah
def sizeA (as : List Arc) : Int := as.foldl (fun z a => z + a.ah + 98) 0
/-- a pile so far: its archives, its size -/
structure Stk (as : List Arc) (z : Int) : Prop where
  ok : ∀ a ∈ as, ArcOk a
  bgs : ∀ (i : Nat) a, as[i]? = some a → a.bg = sizeA (as.take i)
  sz : z = sizeA as
  z0 : 0 ≤ z
  le : ∀ a ∈ as, 0 ≤ a.bg ∧ a.bg + a.ah + 98 ≤ z
  lim : z ≤ 2776 ∧ (as.length ≤ 3 → z ≤ 1388) ∧ (as.length ≤ 2 → z ≤ 694) ∧ (as.length ≤ 1 → z ≤ 347) ∧ (as.length = 0 → z = 0)
theorem stk_nil : Stk [] 0 := ⟨fun a h => (nomatch h), fun i a h => by simp at h, rfl, by decide, fun a h => (nomatch h), by simp⟩
theorem stk_snoc {as : List Arc} {z : Int} {a : Arc} (S : Stk as z) (h : ArcOk a) (hb : a.bg = z) (ha : a.ah ≤ 249 ∨ a.ah + 98 ≤ z) (hn : as.length ≤ 3) : Stk (as ++ [a]) (z + a.ah + 98) := by
  have h0 := h.l0
  have h1 := h.l1
  have z0 := S.z0
  obtain ⟨m1, m2, m3, m4, m5⟩ := S.lim
  refine ⟨fun b hb => ?_, fun i b hb' => ?_, ?_, by omega, fun b hb' => ?_, ?_⟩
  · rcases List.mem_append.mp hb with hb | hb
    · exact S.ok b hb
    · rw [List.mem_singleton.mp hb]; exact h
  · by_cases hi : i < as.length
    · rw [List.getElem?_append_left hi] at hb'
      rw [List.take_append_of_le_length (by omega)]
      exact S.bgs i b hb'
    · have e : i = as.length := by
        have := (List.getElem?_eq_some_iff.mp hb').1
        simp at this
        omega
      subst e
      rw [List.getElem?_append_right (Nat.le_refl _), Nat.sub_self] at hb'
      have : b = a := by simpa using hb'.symm
      rw [this, List.take_left' rfl, hb, S.sz]
  · rw [S.sz]
    unfold sizeA
    rw [List.foldl_append]
    rfl
  · rcases List.mem_append.mp hb' with hb' | hb'
    · have := S.le b hb'
      omega
    · rw [List.mem_singleton.mp hb']
      omega
  · rw [List.length_append, List.length_singleton]
    refine ⟨?_, ?_, ?_, ?_, ?_⟩ <;> omega
inductive RowAt (b : Nat) (news : List (Addr × Obj)) (v : Value) (a : Arc) : Prop
  | mk (T F : Addr) (tb ta tn t0 t1 t2 t3 t4 t5 : Tok) (c c' : Nat) (e : v = .ref T) (gT : @LT.lt Nat instLTNat b T) (gF : @LT.lt Nat instLTNat b F) (hT : (T, ({ cls := .type "tuple", data := .seq #[.int a.bg tb, .int a.ah ta, .ref F, .int (beN a.bytes) tn] c } : Obj)) ∈ news)
    (hF : (F, ({ cls := .type "list", data := .seq #[.int a.f0 t0, .int a.f1 t1, .int a.f2 t2, .int a.f3 t3, .int a.ln t4, .int (a.ah - a.ln) t5] c' } : Obj)) ∈ news) : RowAt b news v a
structure RowsAre (b : Nat) (news : List (Addr × Obj)) (vs : List Value) (as : List Arc) : Prop where
  len : vs.length = as.length
  at_ : ∀ (i : Nat) a, as[i]? = some a → ∃ v, vs[i]? = some v ∧ RowAt b news v a
theorem rowsAre_nil {b : Nat} {news : List (Addr × Obj)} : RowsAre b news [] [] := ⟨rfl, fun i a h => by simp at h⟩
theorem rowAt_mono {b : Nat} {news news' : List (Addr × Obj)} {v : Value} {a : Arc} (hs : ∀ q ∈ news, q ∈ news') (h : RowAt b news v a) : RowAt b news' v a :=
  let ⟨T, F, tb, ta, tn, t0, t1, t2, t3, t4, t5, c, c', e, gT, gF, hT, hF⟩ := h
  ⟨T, F, tb, ta, tn, t0, t1, t2, t3, t4, t5, c, c', e, gT, gF, hs _ hT, hs _ hF⟩
theorem rowsAre_mono {b : Nat} {news news' : List (Addr × Obj)} {vs : List Value} {as : List Arc} (hs : ∀ q ∈ news, q ∈ news') (h : RowsAre b news vs as) : RowsAre b news' vs as :=
  ⟨h.len, fun i a e => let ⟨v, e1, r⟩ := h.at_ i a e; ⟨v, e1, rowAt_mono hs r⟩⟩
theorem rowsAre_snoc {b₀ : Nat} {news : List (Addr × Obj)} {vs : List Value} {as : List Arc} {v : Value} {a : Arc} (h : RowsAre b₀ news vs as) (r : RowAt b₀ news v a) : RowsAre b₀ news (vs ++ [v]) (as ++ [a]) := by
  refine ⟨by simp [h.len], fun i b e => ?_⟩
  by_cases hi : i < as.length
  · rw [List.getElem?_append_left hi] at e
    obtain ⟨v', e1, r1⟩ := h.at_ i b e
    exact ⟨v', by rw [List.getElem?_append_left (by rw [h.len]; exact hi)]; exact e1, r1⟩
  · have ei : i = as.length := by
      have := (List.getElem?_eq_some_iff.mp e).1
      simp at this
      omega
    subst ei
    rw [List.getElem?_append_right (Nat.le_refl _), Nat.sub_self] at e
    have : b = a := by simpa using e.symm
    rw [this]
    exact ⟨v, by rw [← h.len, List.getElem?_append_right (Nat.le_refl _), Nat.sub_self]; rfl, r⟩
def IntB (M : Int) (v : Value) : Prop := ∃ x t, v = .int x t ∧ (Builtin.Int.intBits x : Int) ≤ M
section
variable {prog : Program} {w : World} {A : Around} {E : Value → Shared → Prop} {s : Shared} {h₀ : Heap} {L : Addr} {news nx : List (Addr × Obj)} {value slice : Expr} {l : Addr} {vs : Array Value} {c : Nat} {k : Int} {u : Tok} {Q : Value → Shared → Prop}
theorem item_ints {M : Int} (N : News h₀ L s.heap news) (hm : (l, ({ cls := .type "list", data := .seq vs c } : Obj)) ∈ news) (hb : ∀ v ∈ vs.toList, IntB M v) (h0 : 0 ≤ k) (hk : k < vs.size) (hz : vs.size ≤ 100) (h : ∀ x t, (Builtin.Int.intBits x : Int) ≤ M → Q (.int x t) s)
    (hs : subscripted slice false (.ref l) (.int k u) = operate [.ref l, .int k u] (getItem (.ref l) (.int k u)) := by with_unfolding_all rfl) :
    wpAny (model prog w) A (subscriptTail value slice (.ref l) (.int k u)) Q E s := by
  have hj : k.toNat < vs.size := by omega
  obtain ⟨x, t, e, hx⟩ := hb vs[k.toNat] (by simp)
  exact my_item N hm h0 (by omega) (by rw [Array.getElem?_eq_getElem hj, e]) (h x t hx) hs
theorem item_row {b₀ : Nat} {as : List Arc} (N : News h₀ L s.heap news) (hm : (l, ({ cls := .type "list", data := .seq vs c } : Obj)) ∈ news) (hr : RowsAre b₀ nx vs.toList as) (hsub : ∀ q ∈ nx, q ∈ news) (h0 : 0 ≤ k) (hk : k < as.length) (hz : as.length ≤ 100)
    (h : ∀ a T F tb ta tn c, a ∈ as → as[k.toNat]? = some a → (T, ({ cls := .type "tuple", data := .seq #[.int a.bg tb, .int a.ah ta, .ref F, .int (beN a.bytes) tn] c } : Obj)) ∈ nx → RowAt b₀ nx (.ref T) a → Q (.ref T) s)
    (hs : subscripted slice false (.ref l) (.int k u) = operate [.ref l, .int k u] (getItem (.ref l) (.int k u)) := by with_unfolding_all rfl) :
    wpAny (model prog w) A (subscriptTail value slice (.ref l) (.int k u)) Q E s := by
  have hj : k.toNat < as.length := by omega
  obtain ⟨v, e1, r⟩ := hr.at_ k.toNat as[k.toNat] (List.getElem?_eq_getElem hj)
  have r' := r
  obtain ⟨T, F, tb, ta, tn, t0, t1, t2, t3, t4, t5, c1, c', rfl, gT, gF, hT, hF⟩ := r'
  refine my_item N hm h0 (by omega) (v := .ref T) ?_ (h _ T F tb ta tn c1 (List.getElem_mem hj) (List.getElem?_eq_getElem hj) hT r) hs
  rw [← Array.getElem?_toList]
  exact e1
end
theorem allLt_ne9 {d : Addr} {l : List (Addr × Obj)} (h : AllLt d l) : ∀ q ∈ l, q.1 ≠ d := fun q hq => Nat.ne_of_lt (allLt_mem h q hq)
theorem len_four {prog : Program} {w : World} {A : Around} {E : Value → Shared → Prop} {s : Shared} {h₀ : Heap} {L : Addr} {news : List (Addr × Obj)} {l : Addr} {v0 v1 v2 v3 : Value} {c : Nat} {Q : Value → Shared → Prop}
    (N : News h₀ L s.heap news) (hm : (l, ({ cls := .type "list", data := .seq #[v0, v1, v2, v3] c } : Obj)) ∈ news) (h : ∀ t k, Q (.int 4 t) { s with toks := k }) :
    wpAny (model prog w) A (call (.builtin "len") [.ref l]) Q E s := my_lenL N hm (by show 4 ≤ 16777216; decide) h
theorem row_turn {g h : Heap} {L I rw D F : Addr} {it : Obj} {vs : Array Value} {c1 c2 c3 : Nat} {nx news : List (Addr × Obj)} {as : List Arc} {z ah o f0 f1 f2 f3 ln : Int} {tb ta tn t0 t1 t2 t3 t4 t5 : Tok}
    (N : News g L h ((D, ({ cls := .type "tuple", data := .seq #[.int z tb, .int ah ta, .ref F, .int (beN (fillL o ah ++ tailL f0 f1 f2 f3 ln (ah - ln) ah)) tn] c1 } : Obj)) :: (F, ({ cls := .type "list", data := .seq #[.int f0 t0, .int f1 t1, .int f2 t2, .int f3 t3, .int ln t4, .int (ah - ln) t5] c2 } : Obj)) :: (I, it) :: (rw, listOf (vs.push (.ref D)) c3) :: nx))
    (S : Off nx news [rw]) (R : RowsAre rw nx vs.toList as) (K : Stk as z) (hn : as.length ≤ 3) (d1 : @LT.lt Nat instLTNat rw D) (d2 : @Ne Nat D I) (d3 : @LT.lt Nat instLTNat rw F) (d4 : @Ne Nat F I) (hIn : ∀ q ∈ nx, q.1 ≠ I) (hI : @Ne Nat rw I)
    (o0 : 0 ≤ o) (o1 : o < 256) (a0 : 0 ≤ f0 ∧ f0 < 16777216) (a1 : 0 ≤ f1 ∧ f1 < 16777216) (a2 : 0 ≤ f2 ∧ f2 < 16777216) (a3 : 0 ≤ f3 ∧ f3 < 16777216) (l0 : 0 ≤ ln) (l1 : ln ≤ ah) (ahc : ah ≤ 249 ∨ ah + 98 ≤ z) :
    ∃ nx', News g L h ((I, it) :: (rw, listOf (vs.push (.ref D)) c3) :: nx') ∧ (∀ p ∈ ((rw, listOf (vs.push (.ref D)) c3) : Addr × Obj) :: nx', p.1 ≠ I) ∧ Off nx' news [rw] ∧ RowsAre rw nx' (vs.push (.ref D)).toList (as ++ [⟨z, ah, o, f0, f1, f2, f3, ln⟩]) ∧ Stk (as ++ [⟨z, ah, o, f0, f1, f2, f3, ln⟩]) (z + ah + 98) := by
  have hs : ∀ q ∈ nx, q ∈ (D, ({ cls := .type "tuple", data := .seq #[.int z tb, .int ah ta, .ref F, .int (beN (fillL o ah ++ tailL f0 f1 f2 f3 ln (ah - ln) ah)) tn] c1 } : Obj)) :: (F, ({ cls := .type "list", data := .seq #[.int f0 t0, .int f1 t1, .int f2 t2, .int f3 t3, .int ln t4, .int (ah - ln) t5] c2 } : Obj)) :: nx := fun q hq => .tail _ (.tail _ hq)
  refine ⟨(D, _) :: (F, _) :: nx, cb_drop N (List.forall_mem_cons.mpr ⟨.tail _ (.tail _ (.head _)), List.forall_mem_cons.mpr ⟨.tail _ (.tail _ (.tail _ (.head _))), List.forall_mem_cons.mpr ⟨.head _, List.forall_mem_cons.mpr ⟨.tail _ (.head _), fun q hq => .tail _ (.tail _ (.tail _ (.tail _ hq)))⟩⟩⟩⟩), ?_, ?_, ?_, ?_⟩
  · exact List.forall_mem_cons.mpr ⟨hI, List.forall_mem_cons.mpr ⟨d2, List.forall_mem_cons.mpr ⟨d4, hIn⟩⟩⟩
  · refine ⟨fun q hq => hs q (S.sub q hq), fun q hq a ha => ?_⟩
    rcases List.mem_cons.mp hq with h | hq
    · rw [h, List.mem_singleton.mp ha]; exact Nat.ne_of_gt d1
    · rcases List.mem_cons.mp hq with h | hq
      · rw [h, List.mem_singleton.mp ha]; exact Nat.ne_of_gt d3
      · exact S.off q hq a ha
  · rw [Array.toList_push]
    exact rowsAre_snoc (rowsAre_mono hs R) ⟨D, F, tb, ta, tn, t0, t1, t2, t3, t4, t5, c1, c2, rfl, d1, d3, .head _, .tail _ (.head _)⟩
  · exact stk_snoc K ⟨o0, o1, a0, a1, a2, a3, l0, l1⟩ rfl ahc hn
theorem mod24 {prog : Program} {w : World} {A : Around} {E : Value → Shared → Prop} {s : Shared} {a : Int} {t u : Tok} {Q : Value → Shared → Prop} (h : ∀ v : Int, 0 ≤ v ∧ v < 16777216 → Q (.int v s.toks) { s with toks := s.toks + 1 }) :
    wpAny (model prog w) A (binaryOp .Mod (.int a t) (.int (2 ^ Int.toNat 24) u)) Q E s :=
  my_mod (by decide) fun v _ h0 h1 => h v ⟨h0, h1⟩
theorem stRo1 {M A Q E s y0 y1 y2 y3 y4} (h : Blk (wpAny M A (subscriptTail y0 y1 (Value.ref y2) (Value.int y3 y4)) Q E s)) : wpAny M A (subscriptTail y0 y1 (Value.ref y2) (Value.int y3 y4)) Q E s := h
theorem stRo2 {M A Q E s y0} (h : Blk (wpAny M A (call (Value.ref 137) y0) Q E s)) : wpAny M A (call (Value.ref 137) y0) Q E s := h
theorem stRo3 {M A Q E s y0} (h : Blk (wpAny M A (call (Value.builtin "len") [Value.ref y0]) Q E s)) : wpAny M A (call (Value.builtin "len") [Value.ref y0]) Q E s := h
local macro_rules | `(tactic| walk_at "call ref") => `(tactic| with_reducible refine stRo2 ?_)
local macro_rules | `(tactic| walk_at "subscriptTail") => `(tactic| with_reducible refine stRo1 ?_)
local macro_rules | `(tactic| walk_at "call builtin:len") => `(tactic| with_reducible refine stRo3 ?_)
local macro_rules | `(tactic| walk_at "binaryOp Pow int int") => `(tactic| refine Blk.out ?_)
local macro_rules | `(tactic| walk_at "binaryOp Mult int int") => `(tactic| refine Blk.out ?_)
local macro_rules | `(tactic| walk_at "binaryOp Mod int int") => `(tactic| refine Blk.out ?_)
local macro_rules | `(tactic| walk_at "binaryOp FloorDiv int int") => `(tactic| refine Blk.out ?_)
local macro_rules | `(tactic| walk_at "exec For Name Call cons nil") => `(tactic| refine Blk.out ?_)
theorem stRo4 {M A Q E s y0 y1 y2 y3 y4 y5 y6 y7 y8} (h : Blk (wpAny M A (execs (Stmt.Assign [Expr.Name ("x" : Str) y0] y1 y2 :: y3 :: y4 :: y5 :: y6 :: y7) y8) Q E s)) : wpAny M A (execs (Stmt.Assign [Expr.Name ("x" : Str) y0] y1 y2 :: y3 :: y4 :: y5 :: y6 :: y7) y8) Q E s := h
local macro_rules | `(tactic| walk_at "execs cons Assign") => `(tactic| with_reducible refine stRo4 ?_)
local macro_rules | `(tactic| walk_at "pyIter ref") => `(tactic| refine Blk.out ?_)
section
variable {prog : Program} {w : World} {p : Program} {loose : List Str} {mean : ExcName → Option Value} {mg mb : Str → Option Value}
  {dp un : Nat} {gd : Option (List Code)} {cn : Str} {cs : Scope} {ad : Addr} {ccd : Value} {cl : List (Str × Addr)} {outer : List Env} {A₀ : Around} {base h₀ : Heap} {L : Addr} {m : Str → Option Value} {news : List (Addr × Obj)} {s : Shared} {Q E : Value → Shared → Prop}
theorem rows_call {cc : Addr} {v0 v1 v2 v3 : Value} {cnn : Nat} {M : Int} (hM : M ≤ 4194304) (hxs : ∀ v ∈ (#[v0, v1, v2, v3] : Array Value).toList, IntB M v)
    (hcc : (cc, ({ cls := .type "list", data := .seq #[v0, v1, v2, v3] cnn } : Obj)) ∈ news) (H : Here w p loose mean mg mb 3 dp un cs outer A₀ base h₀ L m news s.heap)
    (hret : ∀ (rw : Addr) (vs : Array Value) (c : Nat) (nx : List (Addr × Obj)) (as : List Arc) (z : Int) h' tk', Fr h₀ L h' m → News h₀ L h' ((rw, ({ cls := .type "list", data := .seq vs c } : Obj)) :: nx) → Off nx news [rw] → (∀ q ∈ news, @LT.lt Nat instLTNat q.1 rw) → RowsAre rw nx vs.toList as → Stk as z → as.length = 4 → Q (.ref rw) { s with heap := h', toks := tk' }) :
    wpAny (model prog w) (ktrTop dp un gd cn cs L ad ccd cl outer) (call (.ref 151) [.ref cc]) Q E s := by
  obtain ⟨B, F, X, N, T, hk, hd, hu⟩ := H
  refine wpAny_call ?_
  k_dflt ((refine' code_def ?k1_40 ?k2_40 ?k3_40 ?k4_40 ?k5_40 ?kA_40 ?kF_40 ?kK_40 ?k6_40 ?k7_40 ?k8_40 ?k9_40 ?kB_40 ?_ ?c2_40 ?c3_40 ?c4_40 ?c5_40; (case kA_40 => exact rfl); (case kF_40 => exact rfl); (case kK_40 => first | exact rfl | (first | with_reducible assumption | assumption)); (case k1_40 => k_asm); (case k2_40 => k_asm); (case k3_40 => k_asm); (case k4_40 => k_asm); (case k5_40 => k_asm); (case k6_40 => k_is); (case k7_40 => k_is); (case k8_40 => ktr_room); (case k9_40 => first | exact BindsTo.of_eq rfl | exact binds_K (by k_in) rfl (by k_is) rfl rfl rfl); (case c5_40 => decide); (case kB_40 => exact locs rfl); (case c2_40 => exact rfl); (case c3_40 => exact rfl); (case c4_40 => exact rfl); k_whole; intro g' L' h' FG' F' N' B' X' T'; (try dsimp only); (try k_lift B'); (try k_fold)))
  let Jc : Heap → Prop := fun h' => ∀ G : Prop, (∀ (m' : Str → Option Value) (rw : Addr) (c : Nat) (tz : Tok), Fr g' L' h' m' → News g' L' h' ((rw, listOf #[] c) :: news) → NmAre m' [("cells", .ref cc), ("rows", .ref rw), ("size", .int 0 tz)] → (∀ q ∈ news, @LT.lt Nat instLTNat q.1 rw) → G) → G
  with_reducible refine Jn.ckpt 2 Jc ?_ ?_
  · dsimp only [List.take]
    k_fold
    (repeat' (first | ((with_reducible refine Blk.into ?_); (first | ((with_reducible show wpAny _ _ (subscriptTail _ _ (Value.ref _) (Value.int _ _)) _ _ _); k_dflt (first | (refine item_ints (by k_asm) (by repeat (first | with_reducible assumption | exact List.Mem.head _ | refine memS ?_)) hxs (by omega) (by (first | omega | (simp only [List.size_toArray, List.length_cons, List.length_nil]; omega))) (by (simp only [List.size_toArray, List.length_cons, List.length_nil]; omega)) ?_ (by with_unfolding_all rfl); intro x9 tx9 hx9) | (refine item_row (by k_asm) (by repeat (first | with_reducible assumption | exact List.Mem.head _ | refine memS ?_)) (by with_reducible assumption) (by repeat (first | exact fun _ h => h | with_reducible assumption | refine subT ?_)) (by omega) (by omega) (by omega) ?_ (by with_unfolding_all rfl); intro a9 T9 F9 tb9 ta9 tn9 c9 hm9 hg9 hT9 hr9) | (refine item_tupleT (News.isTup (by k_asm) (by repeat (first | with_reducible assumption | exact List.Mem.head _ | refine memS ?_))) (by decide) (by decide) (by rfl) (by rfl) ?_)); (try simp only [Int.reduceToNat, List.getElem_toArray, List.getElem_cons_zero, List.getElem_cons_succ])) | ((with_reducible show wpAny _ _ (binaryOp .Pow (Value.int 2 _) (Value.int _ _)) _ _ _); (refine pow_int_small (by omega) (by omega) (by decide) ?_)) | ((with_reducible show wpAny _ _ (binaryOp .Mult (Value.int _ _) (Value.int _ _)) _ _ _); (refine my_mul (by omega) ?_)) | ((with_reducible show wpAny _ _ (binaryOp .FloorDiv (Value.int _ _) (Value.int _ _)) _ _ _); (refine my_fdiv (by decide) (by decide) ?_); intro q9 eq9 bq9) | ((with_reducible show wpAny _ _ (binaryOp .Mod (Value.int _ _) (Value.int (2 ^ _) _)) _ _ _); (refine mod24 ?_); intro r9 hr9) | ((with_reducible show wpAny _ _ (binaryOp .Mod (Value.int _ _) (Value.int _ _)) _ _ _); (refine my_mod (by omega) ?_); intro r9 er9 r09 r19) | ((with_reducible show wpAny _ _ (call (Value.ref 137) _) _ _ _); k_dflt (refine archive_call (by omega) (by omega) (by omega) (by omega) (by exact ⟨by k_asm, by k_asm, by k_asm, by k_asm, by k_asm, by first | exact rfl | (first | with_reducible assumption | assumption), by (simp only [depth_deeper, depth_in1, ktrTop]; omega), by (simp only [units_deeper, units_in1, ktrTop]; omega)⟩) (by repeat (first | with_reducible assumption | exact List.Mem.head _ | refine memS ?_)) ?_); intro t' h' tk' F' N'; (try k_sweep)) | ((with_reducible show wpAny _ _ (call (Value.builtin "len") [Value.ref _]) _ _ _); k_dflt (refine len_four (by k_asm) (by repeat (first | with_reducible assumption | exact List.Mem.head _ | refine memS ?_)) ?_); intro _ _))) | (k_unfold; (try dsimp only)) | (k_end; wrow_close) | walk1 | (dsimp only; walk1) | (leave1; (try dsimp only))))
    (refine ⟨_, _, rfl, ?_⟩; intro G k; exact k _ _ _ _ (by k_asm) (by k_asm) (by repeat (first | exact nm_nil | refine nm_cons (by with_unfolding_all rfl) ?_)) (by first | (rename AllLt _ _ => hh9; exact allLt_mem hh9) | (rename ∀ p : Addr × Obj, p ∈ _ → p.1 < _ => hh9; exact hh9)))
  intro h2 tk2 hJ
  with_reducible refine hJ _ ?_
  clear hJ Jc
  rintro m2 rw c tz F2 N2 M2 hrw
  with_reducible refine fr_fold F2 M2 ?_
  clear F2
  intro mm F2
  dsimp only [List.drop]
  (repeat' (first | ((with_reducible refine Blk.into ?_); (first | ((with_reducible show wpAny _ _ (subscriptTail _ _ (Value.ref _) (Value.int _ _)) _ _ _); k_dflt (first | (refine item_ints (by k_asm) (by repeat (first | with_reducible assumption | exact List.Mem.head _ | refine memS ?_)) hxs (by omega) (by (first | omega | (simp only [List.size_toArray, List.length_cons, List.length_nil]; omega))) (by (simp only [List.size_toArray, List.length_cons, List.length_nil]; omega)) ?_ (by with_unfolding_all rfl); intro x9 tx9 hx9) | (refine item_row (by k_asm) (by repeat (first | with_reducible assumption | exact List.Mem.head _ | refine memS ?_)) (by with_reducible assumption) (by repeat (first | exact fun _ h => h | with_reducible assumption | refine subT ?_)) (by omega) (by omega) (by omega) ?_ (by with_unfolding_all rfl); intro a9 T9 F9 tb9 ta9 tn9 c9 hm9 hg9 hT9 hr9) | (refine item_tupleT (News.isTup (by k_asm) (by repeat (first | with_reducible assumption | exact List.Mem.head _ | refine memS ?_))) (by decide) (by decide) (by rfl) (by rfl) ?_)); (try simp only [Int.reduceToNat, List.getElem_toArray, List.getElem_cons_zero, List.getElem_cons_succ])) | ((with_reducible show wpAny _ _ (binaryOp .Pow (Value.int 2 _) (Value.int _ _)) _ _ _); (refine pow_int_small (by omega) (by omega) (by decide) ?_)) | ((with_reducible show wpAny _ _ (binaryOp .Mult (Value.int _ _) (Value.int _ _)) _ _ _); (refine my_mul (by omega) ?_)) | ((with_reducible show wpAny _ _ (binaryOp .FloorDiv (Value.int _ _) (Value.int _ _)) _ _ _); (refine my_fdiv (by decide) (by decide) ?_); intro q9 eq9 bq9) | ((with_reducible show wpAny _ _ (binaryOp .Mod (Value.int _ _) (Value.int (2 ^ _) _)) _ _ _); (refine mod24 ?_); intro r9 hr9) | ((with_reducible show wpAny _ _ (binaryOp .Mod (Value.int _ _) (Value.int _ _)) _ _ _); (refine my_mod (by omega) ?_); intro r9 er9 r09 r19) | ((with_reducible show wpAny _ _ (call (Value.ref 137) _) _ _ _); k_dflt (refine archive_call (by omega) (by omega) (by omega) (by omega) (by exact ⟨by k_asm, by k_asm, by k_asm, by k_asm, by k_asm, by first | exact rfl | (first | with_reducible assumption | assumption), by (simp only [depth_deeper, depth_in1, ktrTop]; omega), by (simp only [units_deeper, units_in1, ktrTop]; omega)⟩) (by repeat (first | with_reducible assumption | exact List.Mem.head _ | refine memS ?_)) ?_); intro t' h' tk' F' N'; (try k_sweep)) | ((with_reducible show wpAny _ _ (call (Value.builtin "len") [Value.ref _]) _ _ _); k_dflt (refine len_four (by k_asm) (by repeat (first | with_reducible assumption | exact List.Mem.head _ | refine memS ?_)) ?_); intro _ _))) | (k_unfold; (try dsimp only)) | (k_end; wrow_close) | walk1 | (dsimp only; walk1) | (leave1; (try dsimp only))))
  refine Blk.into ?_
  rename Fr g' L' _ _ => FW
  with_unfolding_all refine' For_turns FW ?h ?hs ?hE
  case hs => intro _; rfl
  case hE => first | passes_own | with_unfolding_all passes_own
  (repeat' (first | ((with_reducible refine Blk.into ?_); (first | ((with_reducible show wpAny _ _ (subscriptTail _ _ (Value.ref _) (Value.int _ _)) _ _ _); k_dflt (first | (refine item_ints (by k_asm) (by repeat (first | with_reducible assumption | exact List.Mem.head _ | refine memS ?_)) hxs (by omega) (by (first | omega | (simp only [List.size_toArray, List.length_cons, List.length_nil]; omega))) (by (simp only [List.size_toArray, List.length_cons, List.length_nil]; omega)) ?_ (by with_unfolding_all rfl); intro x9 tx9 hx9) | (refine item_row (by k_asm) (by repeat (first | with_reducible assumption | exact List.Mem.head _ | refine memS ?_)) (by with_reducible assumption) (by repeat (first | exact fun _ h => h | with_reducible assumption | refine subT ?_)) (by omega) (by omega) (by omega) ?_ (by with_unfolding_all rfl); intro a9 T9 F9 tb9 ta9 tn9 c9 hm9 hg9 hT9 hr9) | (refine item_tupleT (News.isTup (by k_asm) (by repeat (first | with_reducible assumption | exact List.Mem.head _ | refine memS ?_))) (by decide) (by decide) (by rfl) (by rfl) ?_)); (try simp only [Int.reduceToNat, List.getElem_toArray, List.getElem_cons_zero, List.getElem_cons_succ])) | ((with_reducible show wpAny _ _ (binaryOp .Pow (Value.int 2 _) (Value.int _ _)) _ _ _); (refine pow_int_small (by omega) (by omega) (by decide) ?_)) | ((with_reducible show wpAny _ _ (binaryOp .Mult (Value.int _ _) (Value.int _ _)) _ _ _); (refine my_mul (by omega) ?_)) | ((with_reducible show wpAny _ _ (binaryOp .FloorDiv (Value.int _ _) (Value.int _ _)) _ _ _); (refine my_fdiv (by decide) (by decide) ?_); intro q9 eq9 bq9) | ((with_reducible show wpAny _ _ (binaryOp .Mod (Value.int _ _) (Value.int (2 ^ _) _)) _ _ _); (refine mod24 ?_); intro r9 hr9) | ((with_reducible show wpAny _ _ (binaryOp .Mod (Value.int _ _) (Value.int _ _)) _ _ _); (refine my_mod (by omega) ?_); intro r9 er9 r09 r19) | ((with_reducible show wpAny _ _ (call (Value.ref 137) _) _ _ _); k_dflt (refine archive_call (by omega) (by omega) (by omega) (by omega) (by exact ⟨by k_asm, by k_asm, by k_asm, by k_asm, by k_asm, by first | exact rfl | (first | with_reducible assumption | assumption), by (simp only [depth_deeper, depth_in1, ktrTop]; omega), by (simp only [units_deeper, units_in1, ktrTop]; omega)⟩) (by repeat (first | with_reducible assumption | exact List.Mem.head _ | refine memS ?_)) ?_); intro t' h' tk' F' N'; (try k_sweep)) | ((with_reducible show wpAny _ _ (call (Value.builtin "len") [Value.ref _]) _ _ _); k_dflt (refine len_four (by k_asm) (by repeat (first | with_reducible assumption | exact List.Mem.head _ | refine memS ?_)) ?_); intro _ _))) | (k_unfold; (try dsimp only)) | (k_end; wrow_close) | walk1 | (dsimp only; walk1) | (leave1; (try dsimp only))))
  refine Blk.into ?_
  rename IsRange _ _ _ _ _ _ _ _ => hR
  rename Fr g' L' _ _ => F3
  rename News g' L' _ _ => N3
  refine' range_turns rfl hR (by rfl) (n := 4) (by rfl) F3 N3 (fun (i : Nat) m₁ n₁ => ∃ (vs : Array Value) (c : Nat) (nx : List (Addr × Obj)) (as : List Arc) (z : Int) (tz : Tok), n₁ = (rw, listOf vs c) :: nx ∧ NmAre m₁ [("cells", .ref cc), ("rows", .ref rw), ("size", .int z tz)] ∧ Off nx news [rw] ∧ RowsAre rw nx vs.toList as ∧ Stk as z ∧ as.length = i) ?h0 ?turn ?done
  case h0 =>
    exact ⟨#[], _, news, [], 0, tz, rfl, by repeat (first | exact nm_nil | refine nm_cons (by with_unfolding_all rfl) ?_), ⟨fun _ h => h, fun q hq a ha => by rw [List.mem_singleton.mp ha]; exact Nat.ne_of_lt (hrw q hq)⟩, rowsAre_nil, stk_nil, rfl⟩
  case done =>
    rintro h' tk m₁ n₁ ⟨vs, c, nx, as, z, tz, rfl, Mx, S, R, K, hn⟩ Fx Nx
    clear F3 N3
    with_reducible refine fr_fold Fx Mx ?_
    clear Fx
    intro mm Fx
    (repeat' (first | ((with_reducible refine Blk.into ?_); (first | ((with_reducible show wpAny _ _ (subscriptTail _ _ (Value.ref _) (Value.int _ _)) _ _ _); k_dflt (first | (refine item_ints (by k_asm) (by repeat (first | with_reducible assumption | exact List.Mem.head _ | refine memS ?_)) hxs (by omega) (by (first | omega | (simp only [List.size_toArray, List.length_cons, List.length_nil]; omega))) (by (simp only [List.size_toArray, List.length_cons, List.length_nil]; omega)) ?_ (by with_unfolding_all rfl); intro x9 tx9 hx9) | (refine item_row (by k_asm) (by repeat (first | with_reducible assumption | exact List.Mem.head _ | refine memS ?_)) (by with_reducible assumption) (by repeat (first | exact fun _ h => h | with_reducible assumption | refine subT ?_)) (by omega) (by omega) (by omega) ?_ (by with_unfolding_all rfl); intro a9 T9 F9 tb9 ta9 tn9 c9 hm9 hg9 hT9 hr9) | (refine item_tupleT (News.isTup (by k_asm) (by repeat (first | with_reducible assumption | exact List.Mem.head _ | refine memS ?_))) (by decide) (by decide) (by rfl) (by rfl) ?_)); (try simp only [Int.reduceToNat, List.getElem_toArray, List.getElem_cons_zero, List.getElem_cons_succ])) | ((with_reducible show wpAny _ _ (binaryOp .Pow (Value.int 2 _) (Value.int _ _)) _ _ _); (refine pow_int_small (by omega) (by omega) (by decide) ?_)) | ((with_reducible show wpAny _ _ (binaryOp .Mult (Value.int _ _) (Value.int _ _)) _ _ _); (refine my_mul (by omega) ?_)) | ((with_reducible show wpAny _ _ (binaryOp .FloorDiv (Value.int _ _) (Value.int _ _)) _ _ _); (refine my_fdiv (by decide) (by decide) ?_); intro q9 eq9 bq9) | ((with_reducible show wpAny _ _ (binaryOp .Mod (Value.int _ _) (Value.int (2 ^ _) _)) _ _ _); (refine mod24 ?_); intro r9 hr9) | ((with_reducible show wpAny _ _ (binaryOp .Mod (Value.int _ _) (Value.int _ _)) _ _ _); (refine my_mod (by omega) ?_); intro r9 er9 r09 r19) | ((with_reducible show wpAny _ _ (call (Value.ref 137) _) _ _ _); k_dflt (refine archive_call (by omega) (by omega) (by omega) (by omega) (by exact ⟨by k_asm, by k_asm, by k_asm, by k_asm, by k_asm, by first | exact rfl | (first | with_reducible assumption | assumption), by (simp only [depth_deeper, depth_in1, ktrTop]; omega), by (simp only [units_deeper, units_in1, ktrTop]; omega)⟩) (by repeat (first | with_reducible assumption | exact List.Mem.head _ | refine memS ?_)) ?_); intro t' h' tk' F' N'; (try k_sweep)) | ((with_reducible show wpAny _ _ (call (Value.builtin "len") [Value.ref _]) _ _ _); k_dflt (refine len_four (by k_asm) (by repeat (first | with_reducible assumption | exact List.Mem.head _ | refine memS ?_)) ?_); intro _ _))) | (k_unfold; (try dsimp only)) | (k_end; wrow_close) | walk1 | (dsimp only; walk1) | (leave1; (try dsimp only))))
    exact hret rw vs c nx as z _ _ (by with_reducible assumption) (by with_reducible assumption) S hrw R K hn
  case turn =>
    rintro I i t m₁ n₁ h₁ tk₁ it hi ⟨vs, c, nx, as, z, tz, rfl, Mx, S, R, K, hn⟩ hoff Fx Nx
    clear F3 N3
    with_reducible refine fr_fold Fx Mx ?_
    clear Fx
    intro mm Fx
    have hcc1 := S.sub _ hcc
    have hr1 := off_one S (a := rw) (by simp)
    have hI : @Ne Nat rw I := hoff _ (.head _)
    have hIn : ∀ q ∈ nx, q.1 ≠ I := fun q hq => hoff q (.tail _ hq)
    have z0 := K.z0
    obtain ⟨kk, hkk⟩ : ∃ kk : Int, kk = 0 + (i : Int) := ⟨_, rfl⟩
    rw [← hkk]
    have hk4 : kk < 4 := by omega
    have hk0 : 0 ≤ kk := by omega
    have hsz : vs.size ≤ 4 := by have := R.len; rw [Array.length_toList] at this; omega
    (repeat' (first | ((with_reducible refine Blk.into ?_); (first | ((with_reducible show wpAny _ _ (subscriptTail _ _ (Value.ref _) (Value.int _ _)) _ _ _); k_dflt (first | (refine item_ints (by k_asm) (by repeat (first | with_reducible assumption | exact List.Mem.head _ | refine memS ?_)) hxs (by omega) (by (first | omega | (simp only [List.size_toArray, List.length_cons, List.length_nil]; omega))) (by (simp only [List.size_toArray, List.length_cons, List.length_nil]; omega)) ?_ (by with_unfolding_all rfl); intro x9 tx9 hx9) | (refine item_row (by k_asm) (by repeat (first | with_reducible assumption | exact List.Mem.head _ | refine memS ?_)) (by with_reducible assumption) (by repeat (first | exact fun _ h => h | with_reducible assumption | refine subT ?_)) (by omega) (by omega) (by omega) ?_ (by with_unfolding_all rfl); intro a9 T9 F9 tb9 ta9 tn9 c9 hm9 hg9 hT9 hr9) | (refine item_tupleT (News.isTup (by k_asm) (by repeat (first | with_reducible assumption | exact List.Mem.head _ | refine memS ?_))) (by decide) (by decide) (by rfl) (by rfl) ?_)); (try simp only [Int.reduceToNat, List.getElem_toArray, List.getElem_cons_zero, List.getElem_cons_succ])) | ((with_reducible show wpAny _ _ (binaryOp .Pow (Value.int 2 _) (Value.int _ _)) _ _ _); (refine pow_int_small (by omega) (by omega) (by decide) ?_)) | ((with_reducible show wpAny _ _ (binaryOp .Mult (Value.int _ _) (Value.int _ _)) _ _ _); (refine my_mul (by omega) ?_)) | ((with_reducible show wpAny _ _ (binaryOp .FloorDiv (Value.int _ _) (Value.int _ _)) _ _ _); (refine my_fdiv (by decide) (by decide) ?_); intro q9 eq9 bq9) | ((with_reducible show wpAny _ _ (binaryOp .Mod (Value.int _ _) (Value.int (2 ^ _) _)) _ _ _); (refine mod24 ?_); intro r9 hr9) | ((with_reducible show wpAny _ _ (binaryOp .Mod (Value.int _ _) (Value.int _ _)) _ _ _); (refine my_mod (by omega) ?_); intro r9 er9 r09 r19) | ((with_reducible show wpAny _ _ (call (Value.ref 137) _) _ _ _); k_dflt (refine archive_call (by omega) (by omega) (by omega) (by omega) (by exact ⟨by k_asm, by k_asm, by k_asm, by k_asm, by k_asm, by first | exact rfl | (first | with_reducible assumption | assumption), by (simp only [depth_deeper, depth_in1, ktrTop]; omega), by (simp only [units_deeper, units_in1, ktrTop]; omega)⟩) (by repeat (first | with_reducible assumption | exact List.Mem.head _ | refine memS ?_)) ?_); intro t' h' tk' F' N'; (try k_sweep)) | ((with_reducible show wpAny _ _ (call (Value.builtin "len") [Value.ref _]) _ _ _); k_dflt (refine len_four (by k_asm) (by repeat (first | with_reducible assumption | exact List.Mem.head _ | refine memS ?_)) ?_); intro _ _))) | (k_unfold; (try dsimp only)) | (k_end; wrow_close) | walk1 | (dsimp only; walk1) | (leave1; (try dsimp only))))
    refine Blk.into ?_
    let Jc : Heap → Prop := fun h' => ∀ G : Prop, (∀ (m' : Str → Option Value) (x ah : Int) (tx ta : Tok), Fr g' L' h' m' → News g' L' h' ((I, it) :: (rw, listOf vs c) :: nx) → NmAre m' [("cells", .ref cc), ("rows", .ref rw), ("size", .int z tz), ("x", .int x tx), ("ahead", .int ah ta)] → (Builtin.Int.intBits x : Int) ≤ M → 0 ≤ ah → (ah ≤ 249 ∨ ah + 98 ≤ z) → G) → G
    with_reducible refine Jn.ckpt 4 Jc ?_ ?_
    · dsimp only [List.take]
      k_fold
      (repeat' (first | ((with_reducible refine Blk.into ?_); (first | ((with_reducible show wpAny _ _ (subscriptTail _ _ (Value.ref _) (Value.int _ _)) _ _ _); k_dflt (first | (refine item_ints (by k_asm) (by repeat (first | with_reducible assumption | exact List.Mem.head _ | refine memS ?_)) hxs (by omega) (by (first | omega | (simp only [List.size_toArray, List.length_cons, List.length_nil]; omega))) (by (simp only [List.size_toArray, List.length_cons, List.length_nil]; omega)) ?_ (by with_unfolding_all rfl); intro x9 tx9 hx9) | (refine item_row (by k_asm) (by repeat (first | with_reducible assumption | exact List.Mem.head _ | refine memS ?_)) (by with_reducible assumption) (by repeat (first | exact fun _ h => h | with_reducible assumption | refine subT ?_)) (by omega) (by omega) (by omega) ?_ (by with_unfolding_all rfl); intro a9 T9 F9 tb9 ta9 tn9 c9 hm9 hg9 hT9 hr9) | (refine item_tupleT (News.isTup (by k_asm) (by repeat (first | with_reducible assumption | exact List.Mem.head _ | refine memS ?_))) (by decide) (by decide) (by rfl) (by rfl) ?_)); (try simp only [Int.reduceToNat, List.getElem_toArray, List.getElem_cons_zero, List.getElem_cons_succ])) | ((with_reducible show wpAny _ _ (binaryOp .Pow (Value.int 2 _) (Value.int _ _)) _ _ _); (refine pow_int_small (by omega) (by omega) (by decide) ?_)) | ((with_reducible show wpAny _ _ (binaryOp .Mult (Value.int _ _) (Value.int _ _)) _ _ _); (refine my_mul (by omega) ?_)) | ((with_reducible show wpAny _ _ (binaryOp .FloorDiv (Value.int _ _) (Value.int _ _)) _ _ _); (refine my_fdiv (by decide) (by decide) ?_); intro q9 eq9 bq9) | ((with_reducible show wpAny _ _ (binaryOp .Mod (Value.int _ _) (Value.int (2 ^ _) _)) _ _ _); (refine mod24 ?_); intro r9 hr9) | ((with_reducible show wpAny _ _ (binaryOp .Mod (Value.int _ _) (Value.int _ _)) _ _ _); (refine my_mod (by omega) ?_); intro r9 er9 r09 r19) | ((with_reducible show wpAny _ _ (call (Value.ref 137) _) _ _ _); k_dflt (refine archive_call (by omega) (by omega) (by omega) (by omega) (by exact ⟨by k_asm, by k_asm, by k_asm, by k_asm, by k_asm, by first | exact rfl | (first | with_reducible assumption | assumption), by (simp only [depth_deeper, depth_in1, ktrTop]; omega), by (simp only [units_deeper, units_in1, ktrTop]; omega)⟩) (by repeat (first | with_reducible assumption | exact List.Mem.head _ | refine memS ?_)) ?_); intro t' h' tk' F' N'; (try k_sweep)) | ((with_reducible show wpAny _ _ (call (Value.builtin "len") [Value.ref _]) _ _ _); k_dflt (refine len_four (by k_asm) (by repeat (first | with_reducible assumption | exact List.Mem.head _ | refine memS ?_)) ?_); intro _ _))) | (k_unfold; (try dsimp only)) | (k_end; wrow_close) | walk1 | (dsimp only; walk1) | (leave1; (try dsimp only))))
      all_goals (try (have le9 := K.le _ hm9; have la9 := (K.ok _ hm9).l0; have lb9 := (K.ok _ hm9).l1))
      all_goals (refine ⟨_, _, rfl, ?_⟩; intro G k; exact Jn.un3 (k _ _ _ _ _ (by k_asm) (by k_asm) (by repeat (first | exact nm_nil | refine nm_cons (by with_unfolding_all rfl) ?_))) ⟨hx9, by omega, by omega⟩)
    intro h5 tk5 hJ
    with_reducible refine hJ _ ?_
    clear hJ Jc
    rintro m5 x ah tx ta F5 N5 M5 hx9 ah0 ahc
    with_reducible refine fr_fold F5 M5 ?_
    clear F5
    intro mm F5
    have zl := K.lim
    dsimp only [List.drop]
    (repeat' (first | ((with_reducible refine Blk.into ?_); (first | ((with_reducible show wpAny _ _ (subscriptTail _ _ (Value.ref _) (Value.int _ _)) _ _ _); k_dflt (first | (refine item_ints (by k_asm) (by repeat (first | with_reducible assumption | exact List.Mem.head _ | refine memS ?_)) hxs (by omega) (by (first | omega | (simp only [List.size_toArray, List.length_cons, List.length_nil]; omega))) (by (simp only [List.size_toArray, List.length_cons, List.length_nil]; omega)) ?_ (by with_unfolding_all rfl); intro x9 tx9 hx9) | (refine item_row (by k_asm) (by repeat (first | with_reducible assumption | exact List.Mem.head _ | refine memS ?_)) (by with_reducible assumption) (by repeat (first | exact fun _ h => h | with_reducible assumption | refine subT ?_)) (by omega) (by omega) (by omega) ?_ (by with_unfolding_all rfl); intro a9 T9 F9 tb9 ta9 tn9 c9 hm9 hg9 hT9 hr9) | (refine item_tupleT (News.isTup (by k_asm) (by repeat (first | with_reducible assumption | exact List.Mem.head _ | refine memS ?_))) (by decide) (by decide) (by rfl) (by rfl) ?_)); (try simp only [Int.reduceToNat, List.getElem_toArray, List.getElem_cons_zero, List.getElem_cons_succ])) | ((with_reducible show wpAny _ _ (binaryOp .Pow (Value.int 2 _) (Value.int _ _)) _ _ _); (refine pow_int_small (by omega) (by omega) (by decide) ?_)) | ((with_reducible show wpAny _ _ (binaryOp .Mult (Value.int _ _) (Value.int _ _)) _ _ _); (refine my_mul (by omega) ?_)) | ((with_reducible show wpAny _ _ (binaryOp .FloorDiv (Value.int _ _) (Value.int _ _)) _ _ _); (refine my_fdiv (by decide) (by decide) ?_); intro q9 eq9 bq9) | ((with_reducible show wpAny _ _ (binaryOp .Mod (Value.int _ _) (Value.int (2 ^ _) _)) _ _ _); (refine mod24 ?_); intro r9 hr9) | ((with_reducible show wpAny _ _ (binaryOp .Mod (Value.int _ _) (Value.int _ _)) _ _ _); (refine my_mod (by omega) ?_); intro r9 er9 r09 r19) | ((with_reducible show wpAny _ _ (call (Value.ref 137) _) _ _ _); k_dflt (refine archive_call (by omega) (by omega) (by omega) (by omega) (by exact ⟨by k_asm, by k_asm, by k_asm, by k_asm, by k_asm, by first | exact rfl | (first | with_reducible assumption | assumption), by (simp only [depth_deeper, depth_in1, ktrTop]; omega), by (simp only [units_deeper, units_in1, ktrTop]; omega)⟩) (by repeat (first | with_reducible assumption | exact List.Mem.head _ | refine memS ?_)) ?_); intro t' h' tk' F' N'; (try k_sweep)) | ((with_reducible show wpAny _ _ (call (Value.builtin "len") [Value.ref _]) _ _ _); k_dflt (refine len_four (by k_asm) (by repeat (first | with_reducible assumption | exact List.Mem.head _ | refine memS ?_)) ?_); intro _ _))) | (k_unfold; (try dsimp only)) | (k_end; wrow_close) | walk1 | (dsimp only; walk1) | (leave1; (try dsimp only))))
    rename News g' L' _ _ => N9
    rename Fr g' L' _ _ => F9
    obtain ⟨nx', N5, o5, S5, R5, K5⟩ := row_turn N9 S R K (by omega) (by omega) (by omega) (by omega) (by omega) hIn hI (by omega) (by omega) (by first | with_reducible assumption | omega) (by first | with_reducible assumption | omega) (by first | with_reducible assumption | omega) (by first | with_reducible assumption | omega) (by omega) (by omega) (by omega)
    exact ⟨_, _, _, _, rfl, F9, N5, o5, _, _, nx', _, _, _, rfl, by repeat (first | exact nm_nil | refine nm_cons (by with_unfolding_all rfl) ?_), S5, R5, K5, by simp [hn]⟩
end
end Mine02
end
namespace Mine02
theorem rest18 : True ∧ True := by w_top off; first | (walk1; all_goals trivial) | exact ⟨trivial, trivial⟩
end Mine02

section
namespace Mine02
open DivM Lp Bm
/-- the pile's bytes -/
def pileB (as : List Arc) : List UInt8 := as.flatMap Arc.bytes
theorem bytes_len {a : Arc} (h : ArcOk a) : (a.bytes.length : Int) = a.ah + 98 := by
  have := h.l0
  have := h.l1
  unfold Arc.bytes Arc.tail
  rw [List.length_append, fill_len, tail_len]
  omega
theorem pile_app {as bs : List Arc} : pileB (as ++ bs) = pileB as ++ pileB bs := by simp [pileB]
theorem pile_one {a : Arc} : pileB [a] = a.bytes := by simp [pileB]
theorem size_app (as bs : List Arc) : ∀ z, (as ++ bs).foldl (fun z (a : Arc) => z + a.ah + 98) z = bs.foldl (fun z a => z + a.ah + 98) (as.foldl (fun z a => z + a.ah + 98) z) := fun z => List.foldl_append
theorem size_snoc {as : List Arc} {a : Arc} : sizeA (as ++ [a]) = sizeA as + a.ah + 98 := by
  unfold sizeA
  rw [List.foldl_append]
  rfl
theorem pile_len {as : List Arc} (h : ∀ a ∈ as, ArcOk a) : ((pileB as).length : Int) = sizeA as := by
  have key : ∀ (bs : List Arc) (z : Int), (∀ a ∈ bs, ArcOk a) → bs.foldl (fun z (a : Arc) => z + a.ah + 98) z = z + (pileB bs).length := by
    intro bs
    induction bs with
    | nil => intro z _; simp [pileB]
    | cons a r ih =>
      intro z h
      have e := bytes_len (h a (.head _))
      have e2 : pileB (a :: r) = a.bytes ++ pileB r := by simp [pileB]
      rw [List.foldl_cons, ih _ fun b hb => h b (.tail _ hb), e2, List.length_append]
      omega
  have := key as 0 h
  unfold sizeA
  omega
theorem take_snoc {as : List Arc} {i : Nat} {a : Arc} (h : as[i]? = some a) : as.take (i + 1) = as.take i ++ [a] := by
  rw [List.take_add_one, h, Option.toList_some]
/-- the pile's number, an archive more -/
theorem pile_be {as : List Arc} {i : Nat} {a : Arc} (h : as[i]? = some a) (ok : ArcOk a) : beN (pileB (as.take (i + 1))) = beN (pileB (as.take i)) * 2 ^ (8 * (a.ah + 98)).toNat + beN a.bytes := by
  have e := bytes_len ok
  rw [take_snoc h, pile_app, pile_one, be_app, show (8 * (a.ah + 98)).toNat = 8 * a.bytes.length by omega, pow_8]
/-- where an archive stands -/
theorem pile_at {as : List Arc} {j : Nat} {b : Arc} (h : as[j]? = some b) : pileB as = pileB (as.take j) ++ (b.bytes ++ pileB (as.drop (j + 1))) := by
  have e : as = as.take j ++ ([b] ++ as.drop (j + 1)) := by
    rw [← List.append_assoc, ← take_snoc h, List.take_append_drop]
  calc pileB as = pileB (as.take j ++ ([b] ++ as.drop (j + 1))) := by rw [← e]
    _ = _ := by rw [pile_app, pile_app, pile_one]
theorem cut_mid {A B C : List UInt8} {o n : Int} (ho : (A.length : Int) = o) (hn : (B.length : Int) = n) : cutB (A ++ (B ++ C)) o n = B := by
  unfold cutB
  rw [List.drop_left' (by omega), List.take_left' (by omega)]
/-- the locator -/
def locL (c : Int) : List UInt8 := [80, 75, 6, 7] ++ lowL 0 4 ++ lowL c 8 ++ lowL 1 4
def endL : List UInt8 := [80, 75, 5, 6, 0, 0, 0, 0] ++ List.replicate 12 255 ++ [0, 0]
theorem loc_len {c : Int} : (locL c).length = 20 := by simp [locL, lowL_length]
theorem tail_app {f0 f1 f2 f3 f4 f5 c : Int} : tailL f0 f1 f2 f3 f4 f5 c = recL f0 f1 f2 f3 f4 f5 ++ (locL c ++ endL) := by simp [tailL, locL, endL]
def Arc.rcd (a : Arc) : List UInt8 := recL a.f0 a.f1 a.f2 a.f3 a.ln (a.ah - a.ln)
theorem arc_rec {as : List Arc} {j : Nat} {b : Arc} (h : as[j]? = some b) (ok : ∀ a ∈ as, ArcOk a) (hb : b.bg = sizeA (as.take j)) : cutB (pileB as) (b.bg + b.ah) 56 = b.rcd ∧ cutB (pileB as) (b.bg + b.ah + 56) 20 = locL b.ah := by
  have okb := ok b (List.mem_of_getElem? h)
  have l0 := okb.l0
  have l1 := okb.l1
  have e1 := pile_len (as := as.take j) fun a ha => ok a (List.mem_of_mem_take ha)
  have e2 : pileB as = (pileB (as.take j) ++ fillL b.o b.ah) ++ (b.rcd ++ (locL b.ah ++ (endL ++ pileB (as.drop (j + 1))))) := by
    rw [pile_at h]
    unfold Arc.bytes Arc.tail Arc.rcd
    rw [tail_app]
    simp only [List.append_assoc]
  have e3 : ((pileB (as.take j) ++ fillL b.o b.ah).length : Int) = b.bg + b.ah := by
    rw [List.length_append, fill_len]
    omega
  constructor
  · rw [e2]
    exact cut_mid e3 (by unfold Arc.rcd; rw [rec_len]; rfl)
  · rw [e2, ← List.append_assoc]
    refine cut_mid ?_ (by rw [loc_len]; rfl)
    rw [List.length_append, Int.natCast_add, e3]
    unfold Arc.rcd
    rw [rec_len]
    rfl
theorem loc_facts {c : Int} (h0 : 0 ≤ c) (h1 : c < 2 ^ 63) : (locL c).take 4 = [80, 75, 6, 7] ∧ Unp.sl (locL c) 4 8 = 0 ∧ Unp.sl (locL c) 8 16 = c ∧ Unp.sl (locL c) 16 20 = 1 := by
  refine ⟨?_, ?_, ?_, ?_⟩
  · unfold locL
    rfl
  · unfold locL
    rw [List.append_assoc, List.append_assoc]
    exact sl_low rfl rfl (by decide) (by decide)
  · unfold locL
    rw [List.append_assoc]
    exact sl_low (by simp [lowL_length]) rfl h0 (by omega)
  · have := sl_low (A := [80, 75, 6, 7] ++ lowL 0 4 ++ lowL c 8) (C := []) (x := 1) (i := 16) (j := 20) (n := 4) (by simp [lowL_length]) rfl (by decide) (by decide)
    rwa [List.append_nil] at this
theorem rec_app {f0 f1 f2 f3 f4 f5 : Int} : recL f0 f1 f2 f3 f4 f5 = [80, 75, 6, 6] ++ (lowL 44 8 ++ ([45, 0, 45, 0] ++ (lowL f0 4 ++ (lowL f1 4 ++ (lowL f2 8 ++ (lowL f3 8 ++ (lowL f4 8 ++ (lowL f5 8 ++ [])))))))) := by
  simp [recL]
structure RecIs (d : List UInt8) (f0 f1 f2 f3 f4 f5 : Int) : Prop where
  sg : d.take 4 = [80, 75, 6, 6]
  len : d.length = 56
  told : Unp.sl d 4 12 = 44
  e0 : Unp.sl d 16 20 = f0
  e1 : Unp.sl d 20 24 = f1
  e2 : Unp.sl d 24 32 = f2
  e3 : Unp.sl d 32 40 = f3
  e4 : Unp.sl d 40 48 = f4
  e5 : Unp.sl d 48 56 = f5
theorem rec_is {f0 f1 f2 f3 f4 f5 : Int} (a0 : 0 ≤ f0 ∧ f0 < 16777216) (a1 : 0 ≤ f1 ∧ f1 < 16777216) (a2 : 0 ≤ f2 ∧ f2 < 16777216) (a3 : 0 ≤ f3 ∧ f3 < 16777216) (a4 : 0 ≤ f4 ∧ f4 < 16777216) (a5 : 0 ≤ f5 ∧ f5 < 16777216) :
    RecIs (recL f0 f1 f2 f3 f4 f5) f0 f1 f2 f3 f4 f5 := by
  refine ⟨by rw [rec_app]; rfl, rec_len, ?_, ?_, ?_, ?_, ?_, ?_, ?_⟩
  · rw [rec_app]
    exact sl_low rfl rfl (by decide) (by decide)
  · rw [rec_app, ← List.append_assoc, ← List.append_assoc]
    exact sl_low (by simp [lowL_length]) rfl a0.1 (by omega)
  · rw [rec_app, ← List.append_assoc, ← List.append_assoc, ← List.append_assoc]
    exact sl_low (by simp [lowL_length]) rfl a1.1 (by omega)
  · rw [rec_app, ← List.append_assoc, ← List.append_assoc, ← List.append_assoc, ← List.append_assoc]
    exact sl_low (by simp [lowL_length]) rfl a2.1 (by omega)
  · rw [rec_app, ← List.append_assoc, ← List.append_assoc, ← List.append_assoc, ← List.append_assoc, ← List.append_assoc]
    exact sl_low (by simp [lowL_length]) rfl a3.1 (by omega)
  · rw [rec_app, ← List.append_assoc, ← List.append_assoc, ← List.append_assoc, ← List.append_assoc, ← List.append_assoc, ← List.append_assoc]
    exact sl_low (by simp [lowL_length]) rfl a4.1 (by omega)
  · rw [rec_app, ← List.append_assoc, ← List.append_assoc, ← List.append_assoc, ← List.append_assoc, ← List.append_assoc, ← List.append_assoc, ← List.append_assoc]
    exact sl_low (by simp [lowL_length]) rfl a5.1 (by omega)
/-- bytes known in part: do they bear the sign? -/
def hit : List (Option UInt8) → List UInt8 → Bool
  | some b :: os, c :: ss => b == c && hit os ss
  | none :: os, _ :: ss => hit os ss
  | _, _ => true
def agree : List (Option UInt8) → List UInt8 → Prop
  | [], [] => True
  | some k :: os, b :: bs => k = b ∧ agree os bs
  | none :: os, _ :: bs => agree os bs
  | _, _ => False
theorem hit_sound : ∀ {ks : List (Option UInt8)} {l r ss : List UInt8}, agree ks l → (l ++ r).take ss.length = ss → hit ks ss = true
  | [], _, _, _, _, _ => rfl
  | some k :: ks, [], _, _, h, _ => h.elim
  | none :: ks, [], _, _, h, _ => h.elim
  | some k :: ks, b :: l, r, [], _, _ => rfl
  | none :: ks, b :: l, r, [], _, _ => rfl
  | some k :: ks, b :: l, r, s :: ss, h, e => by
    simp only [List.cons_append, List.length_cons, List.take_succ_cons, List.cons.injEq] at e
    unfold hit
    rw [hit_sound h.2 e.2, h.1, e.1]
    simp
  | none :: ks, b :: l, r, s :: ss, h, e => by
    simp only [List.cons_append, List.length_cons, List.take_succ_cons, List.cons.injEq] at e
    unfold hit
    exact hit_sound (ks := ks) h e.2
theorem agree_drop : ∀ {j : Nat} {ks : List (Option UInt8)} {l : List UInt8}, agree ks l → agree (ks.drop j) (l.drop j)
  | 0, _, _, h => h
  | _ + 1, [], [], h => h
  | _ + 1, [], _ :: _, h => h.elim
  | _ + 1, some _ :: _, [], h => h.elim
  | _ + 1, none :: _, [], h => h.elim
  | j + 1, some _ :: ks, _ :: l, h => agree_drop (j := j) h.2
  | j + 1, none :: ks, _ :: l, h => agree_drop (j := j) (ks := ks) h
theorem agree_app : ∀ {ks ks' : List (Option UInt8)} {l l' : List UInt8}, agree ks l → agree ks' l' → agree (ks ++ ks') (l ++ l')
  | [], _, [], _, _, h' => h'
  | [], _, _ :: _, _, h, _ => h.elim
  | some _ :: _, _, [], _, h, _ => h.elim
  | none :: _, _, [], _, h, _ => h.elim
  | some _ :: ks, _, _ :: l, _, h, h' => ⟨h.1, agree_app h.2 h'⟩
  | none :: ks, _, _ :: l, _, h, h' => agree_app (ks := ks) (l := l) h h'
theorem agree_some : ∀ (l : List UInt8), agree (l.map some) l
  | [] => True.intro
  | _ :: l => ⟨rfl, agree_some l⟩
theorem low4 {x : Int} (h0 : 0 ≤ x) (h1 : x < 16777216) : agree [none, none, none, some 0] (lowL x 4) := by
  have e : x / 2 ^ (8 * 3) % 256 = 0 := by
    rw [Int.ediv_eq_zero_of_lt h0 (by omega)]; rfl
  show agree [none, none, none, some 0] [_, _, _, (x / 2 ^ (8 * 3) % 256).toNat.toUInt8]
  rw [e]
  exact ⟨rfl, True.intro⟩
theorem low8 {x : Int} (h0 : 0 ≤ x) (h1 : x < 16777216) : agree [none, none, none, some 0, some 0, some 0, some 0, some 0] (lowL x 8) := by
  have e : ∀ n, 3 ≤ n → x / 2 ^ (8 * n) % 256 = 0 := fun n hn => by
    have p : (2 : Int) ^ 24 ≤ 2 ^ (8 * n) := by exact_mod_cast Nat.pow_le_pow_right (by decide) (by omega : 24 ≤ 8 * n)
    rw [Int.ediv_eq_zero_of_lt h0 (by omega)]; rfl
  show agree [none, none, none, some 0, some 0, some 0, some 0, some 0] [_, _, _, (x / 2 ^ (8 * 3) % 256).toNat.toUInt8, (x / 2 ^ (8 * 4) % 256).toNat.toUInt8, (x / 2 ^ (8 * 5) % 256).toNat.toUInt8, (x / 2 ^ (8 * 6) % 256).toNat.toUInt8, (x / 2 ^ (8 * 7) % 256).toNat.toUInt8]
  rw [e 3 (by decide), e 4 (by decide), e 5 (by decide), e 6 (by decide), e 7 (by decide)]
  exact ⟨rfl, rfl, rfl, rfl, rfl, True.intro⟩
def k4 : List (Option UInt8) := [none, none, none, some 0]
def k8 : List (Option UInt8) := [none, none, none, some 0, some 0, some 0, some 0, some 0]
/-- what is known of an archive's end -/
def known : List (Option UInt8) :=
  ([80, 75, 6, 6] : List UInt8).map some ++ ([44, 0, 0, 0, 0, 0, 0, 0] : List UInt8).map some ++ ([45, 0, 45, 0] : List UInt8).map some ++ k4 ++ k4 ++ k8 ++ k8 ++ k8 ++ k8 ++ ([80, 75, 6, 7] : List UInt8).map some ++ ([0, 0, 0, 0] : List UInt8).map some ++ k8 ++ ([1, 0, 0, 0] : List UInt8).map some ++ ([80, 75, 5, 6, 0, 0, 0, 0] : List UInt8).map some ++ (List.replicate 12 (255 : UInt8)).map some ++ ([0, 0] : List UInt8).map some
theorem known_ok : ∀ j < 98, 0 < j → hit (known.drop j) [80, 75, 6, 6] = false := by decide +kernel
theorem tail_known {f0 f1 f2 f3 f4 f5 c : Int} (a0 : 0 ≤ f0 ∧ f0 < 16777216) (a1 : 0 ≤ f1 ∧ f1 < 16777216) (a2 : 0 ≤ f2 ∧ f2 < 16777216) (a3 : 0 ≤ f3 ∧ f3 < 16777216) (a4 : 0 ≤ f4 ∧ f4 < 16777216) (a5 : 0 ≤ f5 ∧ f5 < 16777216) (a6 : 0 ≤ c ∧ c < 16777216) :
    agree known (tailL f0 f1 f2 f3 f4 f5 c) := by
  unfold known tailL recL
  refine agree_app (agree_app (agree_app (agree_app (agree_app (agree_app (agree_app (agree_app (agree_app (agree_app (agree_app (agree_app (agree_app (agree_app (agree_app (agree_some _) ?_) (agree_some _)) (low4 a0.1 a0.2)) (low4 a1.1 a1.2)) (low8 a2.1 a2.2)) (low8 a3.1 a3.2)) (low8 a4.1 a4.2)) (low8 a5.1 a5.2)) (agree_some _)) ?_) (low8 a6.1 a6.2)) ?_) (agree_some _)) (agree_some _)) (agree_some _)
  · exact agree_some [44, 0, 0, 0, 0, 0, 0, 0]
  · exact agree_some [0, 0, 0, 0]
  · exact agree_some [1, 0, 0, 0]
/-- a sign within an archive stands at its record -/
theorem sign_one {a : Arc} {r : List UInt8} {k : Nat} (ok : ArcOk a) (h : a.ah < 16777216) (hk : k < a.bytes.length) (hs : ((a.bytes ++ r).drop k).take 4 = [80, 75, 6, 6]) : (k : Int) = a.ah := by
  have e := bytes_len ok
  have l0 := ok.l0
  have l1 := ok.l1
  obtain ⟨n, hn⟩ := Int.eq_ofNat_of_zero_le (by omega : 0 ≤ a.ah)
  have hB : a.bytes = List.replicate n a.o.toNat.toUInt8 ++ a.tail := by
    unfold Arc.bytes fillL
    rw [hn, Int.toNat_natCast]
  have ht : a.tail = 80 :: a.tail.tail := rfl
  rw [hB] at hs
  by_cases h1 : k < n
  · exfalso
    rw [List.append_assoc, List.drop_append_of_le_length (by rw [List.length_replicate]; omega), List.drop_replicate] at hs
    by_cases h2 : k + 1 < n
    · obtain ⟨q, hq⟩ : ∃ q, n - k = q + 2 := ⟨n - k - 2, by omega⟩
      rw [hq, List.replicate_succ, List.replicate_succ] at hs
      simp only [List.cons_append, List.take_succ_cons, List.cons.injEq] at hs
      rw [hs.1] at hs
      exact absurd hs.2.1 (by decide)
    · rw [show n - k = 1 by omega, ht] at hs
      simp only [List.replicate_one, List.cons_append, List.nil_append, List.take_succ_cons, List.cons.injEq] at hs
      exact absurd hs.2.1 (by decide)
  · by_cases h2 : k = n
    · omega
    · exfalso
      have K := tail_known (f0 := a.f0) (f1 := a.f1) (f2 := a.f2) (f3 := a.f3) (f4 := a.ln) (f5 := a.ah - a.ln) (c := a.ah) ok.a0 ok.a1 ok.a2 ok.a3 ⟨by omega, by omega⟩ ⟨by omega, by omega⟩ ⟨by omega, by omega⟩
      obtain ⟨j, hj⟩ : ∃ j, k = n + j := ⟨k - n, by omega⟩
      have hl : a.tail.length = 98 := tail_len
      have hj1 : j < 98 := by omega
      rw [List.append_assoc, hj, ← List.drop_drop, List.drop_left' (by simp), List.drop_append_of_le_length (by omega)] at hs
      have := hit_sound (ss := [80, 75, 6, 6]) (agree_drop (j := j) K) hs
      rw [known_ok j hj1 (by omega)] at this
      cases this
/-- a sign in the pile stands at a record -/
theorem sign_pile {as : List Arc} (ok : ∀ a ∈ as, ArcOk a ∧ a.ah < 16777216) : ∀ {k : Nat} {r : List UInt8}, k < (pileB as).length → ((pileB as ++ r).drop k).take 4 = [80, 75, 6, 6] → ∃ (i : Nat) (a : Arc), as[i]? = some a ∧ (k : Int) = sizeA (as.take i) + a.ah := by
  have fold_add : ∀ (l : List Arc) (z y : Int), l.foldl (fun z (a : Arc) => z + a.ah + 98) (z + y) = z + l.foldl (fun z a => z + a.ah + 98) y := by
    intro l
    induction l with
    | nil => intro z y; rfl
    | cons a l ih =>
      intro z y
      rw [List.foldl_cons, List.foldl_cons, show z + y + a.ah + 98 = z + (y + a.ah + 98) by omega, ih]
  induction as with
  | nil => intro k r h; exact absurd h (Nat.not_lt_zero _)
  | cons a as ih =>
    intro k r h hs
    have ea : pileB (a :: as) = a.bytes ++ pileB as := by simp [pileB]
    have el := bytes_len (ok a (.head _)).1
    rw [ea] at h hs
    rw [List.length_append] at h
    by_cases h1 : k < a.bytes.length
    · rw [List.append_assoc] at hs
      exact ⟨0, a, rfl, by rw [sign_one (ok a (.head _)).1 (ok a (.head _)).2 h1 hs]; simp [sizeA]⟩
    · obtain ⟨j, rfl⟩ : ∃ j, k = a.bytes.length + j := ⟨k - a.bytes.length, by omega⟩
      rw [List.append_assoc, ← List.drop_drop, List.drop_left' rfl] at hs
      obtain ⟨i, b, e1, e2⟩ := ih (fun b hb => ok b (.tail _ hb)) (by omega) hs
      refine ⟨i + 1, b, e1, ?_⟩
      have e3 : sizeA ((a :: as).take (i + 1)) = a.ah + 98 + sizeA (as.take i) := by
        unfold sizeA
        rw [List.take_succ_cons, List.foldl_cons, show (0 : Int) + a.ah + 98 = (a.ah + 98) + 0 by omega, fold_add]
      rw [e3]
      omega
end Mine02
end
namespace Mine02
theorem rest19 : True ∧ True := by w_top off; first | (walk1; all_goals trivial) | exact ⟨trivial, trivial⟩
end Mine02

section
namespace Mine02
open DivM Lp Bm
theorem cut_take {PB : List UInt8} {o : Int} : (cutB PB o 56).take 4 = (PB.drop o.toNat).take 4 := by
  unfold cutB
  rw [List.take_take]
  rfl
/-- does the law look for an opening? -/
def opensA (as : List Arc) (i : Nat) (a : Arc) : Bool := !(((as.take i).map fun b => b.bg + b.ah).any (· == a.ah))
structure Scene (as : List Arc) (i : Nat) (a : Arc) (S : Int) : Prop where
  len : ((pileB (as.take (i + 1))).length : Int) = S
  bg0 : 0 ≤ a.bg
  ah0 : 0 ≤ a.ah
  big : S ≤ 2776
  loc : cutB (pileB (as.take (i + 1))) (S - 42) 20 = locL a.ah
  told : ∃ (d : List UInt8) (xs : Int), d.take 4 = [80, 75, 6, 6] ∧ ((cutB (pileB (as.take (i + 1))) a.ah 56 = d ∧ xs = S - 98 - a.ah) ∨ ((cutB (pileB (as.take (i + 1))) a.ah 56).take 4 ≠ [80, 75, 6, 6] ∧ a.ah ≠ S - 98 ∧ cutB (pileB (as.take (i + 1))) (S - 98) 56 = d ∧ xs = 0)) ∧
    ((opensA as i a = true ∧ d = a.rcd ∧ xs = 0) ∨ (opensA as i a = false ∧ ¬ (Unp.sl d 48 56 + Unp.sl d 40 48 = a.ah ∧ Unp.sl d 4 12 + 12 = 56 + xs)))
theorem arc_is {a : Arc} (ok : ArcOk a) (h : a.ah < 16777216) : RecIs a.rcd a.f0 a.f1 a.f2 a.f3 a.ln (a.ah - a.ln) := by
  have l0 := ok.l0
  have l1 := ok.l1
  exact rec_is ok.a0 ok.a1 ok.a2 ok.a3 ⟨by omega, by omega⟩ ⟨by omega, by omega⟩
theorem scene_of {as : List Arc} {z : Int} (K : Stk as z) {i : Nat} {a : Arc} (h : as[i]? = some a) : Scene as i a (a.bg + a.ah + 98) := by
  have ha := List.mem_of_getElem? h
  have ok := K.ok a ha
  have l0 := ok.l0
  have l1 := ok.l1
  have le := K.le a ha
  have lim := K.lim.1
  have hbg := K.bgs i a h
  have okt : ∀ b ∈ as.take (i + 1), ArcOk b := fun b hb => K.ok b (List.mem_of_mem_take hb)
  have okz : ∀ b ∈ as, b.ah < 16777216 := fun b hb => by
    have := K.le b hb
    have := (K.ok b hb).l0
    have := (K.ok b hb).l1
    omega
  have hlen : ((pileB (as.take (i + 1))).length : Int) = a.bg + a.ah + 98 := by
    rw [pile_len okt, take_snoc h, size_snoc, ← hbg]
  -- places within the shorter pile
  have tk : ∀ (j : Nat) b, j ≤ i → as[j]? = some b → (as.take (i + 1))[j]? = some b ∧ b.bg = sizeA ((as.take (i + 1)).take j) := fun j b hj e => by
    refine ⟨by rw [List.getElem?_take_of_lt (by omega)]; exact e, ?_⟩
    rw [List.take_take, Nat.min_eq_left (by omega)]
    exact K.bgs j b e
  obtain ⟨t1, t2⟩ := tk i a (Nat.le_refl _) h
  obtain ⟨r1, r2⟩ := arc_rec t1 okt t2
  refine ⟨hlen, le.1, by omega, by omega, by rw [show a.bg + a.ah + 98 - 42 = a.bg + a.ah + 56 by omega]; exact r2, ?_⟩
  rw [show a.bg + a.ah + 98 - 98 = a.bg + a.ah by omega]
  have isA := arc_is ok (okz a ha)
  by_cases hi : i = 0
  · -- the lowest
    have hb0 : a.bg = 0 := by rw [hbg, hi]; rfl
    refine ⟨a.rcd, 0, isA.sg, .inl ⟨by rw [← r1, hb0, Int.zero_add], by omega⟩, .inl ⟨?_, rfl, rfl⟩⟩
    rw [hi]
    rfl
  · have hpos : 0 < a.bg := by
      have e0 : ∃ b, as[0]? = some b := by
        have := (List.getElem?_eq_some_iff.mp h).1
        exact ⟨_, List.getElem?_eq_getElem (by omega)⟩
      obtain ⟨b, hb⟩ := e0
      have okb := K.ok b (List.mem_of_getElem? hb)
      have := okb.l0
      have := okb.l1
      have e1 : as.take i = b :: (as.take i).tail := by
        cases as with
        | nil => simp at hb
        | cons c r =>
          have : c = b := by simpa using hb
          subst this
          cases i with
          | zero => exact absurd rfl hi
          | succ n => rfl
      have e2 : ((pileB (as.take i)).length : Int) = a.bg := by rw [pile_len fun b hb => K.ok b (List.mem_of_mem_take hb), ← hbg]
      have e3 : pileB (as.take i) = b.bytes ++ pileB (as.take i).tail := by
        rw [e1]
        simp [pileB]
      have e4 := bytes_len okb
      rw [e3, List.length_append] at e2
      omega
    by_cases ho : ∃ (j : Nat) (b : Arc), j < i ∧ as[j]? = some b ∧ b.bg + b.ah = a.ah
    · obtain ⟨j, b, hj, hb, e⟩ := ho
      have hbm := List.mem_of_getElem? hb
      obtain ⟨u1, u2⟩ := tk j b (by omega) hb
      obtain ⟨s1, _⟩ := arc_rec u1 okt u2
      have isB := arc_is (K.ok b hbm) (okz b hbm)
      refine ⟨b.rcd, a.bg, isB.sg, .inl ⟨by rw [← e]; exact s1, by omega⟩, .inr ⟨?_, ?_⟩⟩
      · have : (((as.take i).map fun b => b.bg + b.ah).any (· == a.ah)) = true := by
          rw [List.any_eq_true]
          refine ⟨b.bg + b.ah, List.mem_map.mpr ⟨b, ?_, rfl⟩, by simp [e]⟩
          exact List.mem_of_getElem? (i := j) (by rw [List.getElem?_take_of_lt hj]; exact hb)
        unfold opensA
        rw [this]
        rfl
      · rintro ⟨_, q⟩
        rw [isB.told] at q
        omega
    · refine ⟨a.rcd, 0, isA.sg, .inr ⟨?_, by omega, r1, rfl⟩, .inl ⟨?_, rfl, rfl⟩⟩
      · intro hs
        rw [cut_take] at hs
        have hk : a.ah.toNat < (pileB (as.take (i + 1))).length := by omega
        obtain ⟨j, b, hb, e⟩ := sign_pile (as := as.take (i + 1)) (r := []) (fun b hb => ⟨okt b hb, okz b (List.mem_of_mem_take hb)⟩) hk (by rw [List.append_nil]; exact hs)
        have hj : j < i + 1 := by
          have := (List.getElem?_eq_some_iff.mp hb).1
          rw [List.length_take] at this
          omega
        have hb' : as[j]? = some b := by rwa [List.getElem?_take_of_lt hj] at hb
        rw [List.take_take, Nat.min_eq_left (by omega), ← K.bgs j b hb'] at e
        by_cases hji : j = i
        · subst hji
          have : b = a := Option.some.inj (hb'.symm.trans h)
          subst this
          omega
        · exact ho ⟨j, b, by omega, hb', by omega⟩
      · have : (((as.take i).map fun b => b.bg + b.ah).any (· == a.ah)) = false := by
          rw [List.any_eq_false]
          intro x hx
          obtain ⟨b, hb, rfl⟩ := List.mem_map.mp hx
          obtain ⟨j, hj⟩ := List.mem_iff_getElem?.mp hb
          have hji : j < i := by
            have := (List.getElem?_eq_some_iff.mp hj).1
            rw [List.length_take] at this
            omega
          rw [List.getElem?_take_of_lt hji] at hj
          intro q
          exact ho ⟨j, b, hji, hj, by simpa using q⟩
        unfold opensA
        rw [this]
        rfl
/-- the factor -/
def IsPw (v b : Int) : Prop := v = 2 ^ b.toNat
theorem fac_ok {v q x b f : Int} (hv : IsPw v b) (hq : IsPw q (b - 2)) (hb : 98 ≤ b) (hr : 0 ≤ x ∧ x < q) (hf : f = v - 1 - 2 * x) : 2 ^ (b.toNat - 1) ≤ f ∧ f < 2 ^ b.toNat := by
  unfold IsPw at hv hq
  obtain ⟨n, hn⟩ : ∃ n, b.toNat = n + 2 := ⟨b.toNat - 2, by omega⟩
  have e1 : (b - 2).toNat = n := by omega
  rw [e1] at hq
  rw [hn] at hv ⊢
  have e2 : (2 : Int) ^ (n + 2) = 4 * 2 ^ n := by rw [Int.pow_succ, Int.pow_succ]; omega
  have e3 : (2 : Int) ^ (n + 2 - 1) = 2 * 2 ^ n := by rw [show n + 2 - 1 = n + 1 by omega, Int.pow_succ]; omega
  rw [e2] at hv ⊢
  rw [e3]
  omega
/-- the division: what it asks, what it answers -/
theorem peel_ask {P y x f : Int} {S W wd : Nat} (hP : P = x * 2 ^ W + y) (hP0 : 0 ≤ P) (hP1 : P < 2 ^ S) (hS : S ≤ wd) (f0 : 2 ^ (wd - 1) ≤ f) (f1 : f < 2 ^ wd) (hw : 0 < wd) :
    0 ≤ P * f ∧ 2 ^ (wd + W - 1) ≤ f * 2 ^ W ∧ f * 2 ^ W < 2 ^ (wd + W) ∧ P * f < 2 ^ (wd + W) * (f * 2 ^ W) := by
  have p1 := two_pow_pos (wd - 1)
  have p2 := two_pow_pos W
  have p3 := two_pow_pos wd
  have p4 := two_pow_pos (wd + W)
  have q1 : P < 2 ^ wd := Int.lt_of_lt_of_le hP1 (by exact_mod_cast Nat.pow_le_pow_right (by decide) hS)
  refine ⟨Int.mul_nonneg hP0 (by omega), ?_, ?_, ?_⟩
  · rw [show wd + W - 1 = (wd - 1) + W by omega, Int.pow_add]
    exact Int.mul_le_mul_of_nonneg_right f0 (by omega)
  · rw [Int.pow_add]
    exact Int.mul_lt_mul_of_pos_right f1 (by omega)
  · have a1 : P * f < 2 ^ wd * f := Int.mul_lt_mul_of_pos_right q1 (by omega)
    have a2 : 2 ^ wd * f ≤ 2 ^ (wd + W) * (f * 2 ^ W) := by
      have b1 : (2 : Int) ^ wd ≤ 2 ^ (wd + W) := by exact_mod_cast Nat.pow_le_pow_right (by decide) (by omega)
      have b2 : f * 1 ≤ f * 2 ^ W := Int.mul_le_mul_of_nonneg_left (by omega) (by omega)
      rw [Int.mul_one] at b2
      exact Int.mul_le_mul b1 b2 (by omega) (by omega)
    omega
theorem peel_told {P y x f V R : Int} {W : Nat} (hP : P = x * 2 ^ W + y) (y0 : 0 ≤ y) (y1 : y < 2 ^ W) (f0 : 0 < f) (e : P * f = V * (f * 2 ^ W) + R) (h0 : 0 ≤ R) (h1 : R < f * 2 ^ W) : V = x ∧ R = y * f := by
  have e2 : P * f = x * (f * 2 ^ W) + y * f := by
    rw [hP, Int.add_mul, Int.mul_assoc, Int.mul_comm (2 ^ W) f]
  have hy : y * f < f * 2 ^ W := by
    rw [Int.mul_comm f]
    exact Int.mul_lt_mul_of_pos_right y1 f0
  have a := ediv_of e h0 h1
  have b := ediv_of e2 (Int.mul_nonneg y0 (by omega)) hy
  exact ⟨a.1.symm.trans b.1, a.2.symm.trans b.2⟩
end Mine02
end
namespace Mine02
theorem rest20 : True ∧ True := by w_top off; first | (walk1; all_goals trivial) | exact ⟨trivial, trivial⟩
end Mine02

section
open PySem PySem.W PySem.Calls PyProof.Rows
namespace Jn
section
variable {prog : Program} {w : World} {A₀ A : Around} {s : Shared} {base h₀ : Heap} {env : Env} {L : Addr} {m : Str → Option Value} {news : List (Addr × Obj)} {K : Frag} {p : Program} {loose : List Str} {mean : ExcName → Option Value} {mg mb : Str → Option Value}
    {R : Result → Shared → Prop} {name qual : Str} {params : Arguments} {body : List Stmt} {scope : Scope} {dV kV doc pm cdv ct oc : Value} {an od : Option Addr} {osl : Array (Option Value)} {f : Addr} {args : Args} {binds : List (Str × Value)}
theorem back_turned {h' g g' : Heap} {L' : Addr} {m' : Str → Option Value} {news' : List (Addr × Obj)} (F₀ : Fr h₀ L s.heap m) (FG : Fr h₀ L g m) (T : KtsTurn [L] g g') (F' : Fr g' L' h' m') (N' : News g' L' h' news') : Fr h₀ L h' m ∧ News h₀ L h' news' := by
  obtain ⟨o, es, ep, ho, hd, hk, hf⟩ := FG.ns
  obtain ⟨sl, hs⟩ := T.up ho
  have none₀ : h₀.get? L = none := kts_self F₀
  have ne : ∀ b o, h₀.get? b = some o → b ∉ [L] := fun b o e q => by
    rw [List.mem_singleton.mp q, none₀] at e
    cases e
  refine ⟨⟨⟨_, es, ep, F'.keep _ _ hs, hd, hk, hf⟩, fun b o e => F'.keep b o (T.other b o (FG.keep b o e) (ne b o e)), FG.above⟩, fun q hq => ⟨(N' q hq).1, fun z => ?_, ?_⟩⟩
  · have := (N' q hq).2.2
    rw [z, hs] at this
    cases this
  · cases e : h₀.get? q.1 with
    | none => rfl
    | some o =>
      have := T.other q.1 o (FG.keep _ _ e) (ne _ _ e)
      rw [(N' q hq).2.2] at this
      cases this
/-- the way into a def that holds a try, out of the law's own frame (whatever cells that frame has) -/
theorem enterS (B : Below A₀ base [] h₀) (F : Fr h₀ L s.heap m) (X₀ : K.In h₀) (N : News h₀ L s.heap news) (T : Top p loose mean mg mb h₀) (hA : A.frames = some [env]) (hf : env.frame = some L) (hke : env.scope.kind = .function)
    (ho : K.lookup f = some ⟨oc, od, .func (fnOf name qual params body scope dV kV doc pm an cdv ct), osl⟩) (hcd : codeIn K cdv qual = true) (hroom : A.depth < recursionLimit)
    (hbind : BindsTo s (fnOf name qual params body scope dV kV doc pm an cdv ct) args binds) (hloc : ∀ y ∈ binds, scope.names.lookup y.1 = some .local)
    (h : ∀ g L' h₁, Fr h₀ L g m → Fr g L' h₁ (fun y => binds.reverse.lookup y) → News g L' h₁ news → Below A base [env] g → K.In g → Top p loose mean mg mb g → KtsDicts [L] g →
      wpAny (model prog w) (A.deeper (envOf qual scope L' f cdv)) (execs body (envOf qual scope L' f cdv))
        (fun fl s' => ∃ g' L₂ m' news', KtsTurn [L] g g' ∧ Fr g' L₂ s'.heap m' ∧ News g' L₂ s'.heap news' ∧ (Fr h₀ L s'.heap m → News h₀ L s'.heap news' → R (.ok (.ret (match fl with | .ret v => v | _ => .none))) s'))
        (fun e s' => wpAny (model prog w) (A.deeper (envOf qual scope L' f cdv)) (leaving (envOf qual scope L' f cdv) e) (fun _ s'' => R (.error e) s'') (fun e' s'' => R (.error e') s'') s')
        { s with heap := h₁, toks := s.toks + binds.length })
    (hco : scope.isCoroutine = false) (hgen : scope.isGenerator = false) (hk : scope.kind = .function)
    (hcell : ∀ x ∈ scope.names, x.2 ≠ .cell) : codeAny (model prog w) A (.call (.ref f) args) R s := by
  have X := X₀.keeps F.keep
  obtain ⟨FG, BG, st, _⟩ := groundX (R := R) B F N hA hf hke
  refine codeAny_call_def (fd := fnOf name qual params body scope dV kV doc pm an cdv ct) (body := body) (binds := binds) hroom (X _ _ ho) rfl (T.nolimit.keeps F.keep) (codeRec_of X hcd) rfl hbind hcell hloc (fun h₁ hns hk₁ => ?_) hco hgen hk
  refine wpAny_mono (h _ s.heap.objs.size h₁ FG ⟨hns, fun b o e => hk₁ b o (of_hideAll _ e), Nat.le_of_eq (hideAll_size _ _)⟩
    (fun q hq => ⟨hk₁ _ _ (N q hq).1, Nat.ne_of_lt (Heap.lt_size (N q hq).1), hideAll_none _ (List.mem_map_of_mem hq)⟩) BG (X₀.keeps st) (T.keeps st) (fun b hb => ?_)) (fun fl s' hl => ?_) fun _ _ y => y
  · obtain ⟨o, es, ep, ho, hd, _⟩ := FG.ns
    rw [List.mem_singleton.mp hb]
    exact ⟨o, es, ep, ho, hd⟩
  · obtain ⟨g', L₂, m', news', T', F', N', k⟩ := hl
    obtain ⟨a, b⟩ := back_turned F FG T' F' N'
    exact k a b
/-- the same for a def with cells -/
theorem enterSC (B : Below A₀ base [] h₀) (F : Fr h₀ L s.heap m) (X₀ : K.In h₀) (N : News h₀ L s.heap news) (T : Top p loose mean mg mb h₀) (hA : A.frames = some [env]) (hf : env.frame = some L) (hke : env.scope.kind = .function)
    (ho : K.lookup f = some ⟨oc, od, .func (fnOf name qual params body scope dV kV doc pm an cdv ct), osl⟩) (hcd : codeIn K cdv qual = true) (hroom : A.depth < recursionLimit)
    (hbind : BindsTo s (fnOf name qual params body scope dV kV doc pm an cdv ct) args binds) (hkind : (binds.all fun y => scope.names.lookup y.1 == some .local || scope.names.lookup y.1 == some .cell) = true)
    (hnd : ((cellsFrom 0 scope.names []).map (·.1)).Nodup)
    (h : ∀ g L' h₁ tk cells, Fr h₀ L g m → Fr g L' h₁ (bindL (envOfC qual scope L' f cdv).kindOf binds fun _ => none) → News g L' h₁ (cells ++ news) →
      CellsAre (bindC (envOfC qual scope L' f cdv).kindOf binds fun _ => none) (cellsFrom (L' + 1) scope.names []) cells → Below A base [env] g → K.In g → Top p loose mean mg mb g → KtsDicts [L] g → (∀ p ∈ news, p.1 < L') →
      wpAny (model prog w) (A.deeper (envOfC qual scope L' f cdv)) (execs body (envOfC qual scope L' f cdv))
        (fun fl s' => ∃ g' L₂ m' news', KtsTurn [L] g g' ∧ Fr g' L₂ s'.heap m' ∧ News g' L₂ s'.heap news' ∧ (Fr h₀ L s'.heap m → News h₀ L s'.heap news' → R (.ok (.ret (match fl with | .ret v => v | _ => .none))) s'))
        (fun e s' => wpAny (model prog w) (A.deeper (envOfC qual scope L' f cdv)) (leaving (envOfC qual scope L' f cdv) e) (fun _ s'' => R (.error e) s'') (fun e' s'' => R (.error e') s'') s')
        { s with heap := h₁, toks := tk })
    (hco : scope.isCoroutine = false) (hgen : scope.isGenerator = false) (hk : scope.kind = .function) : codeAny (model prog w) A (.call (.ref f) args) R s := by
  have X := X₀.keeps F.keep
  obtain ⟨FG, BG, st, _⟩ := groundX (R := R) B F N hA hf hke
  refine codeAny_call_function hroom (X _ _ ho) rfl hco hgen rfl (codeRec_of X hcd) (hbind _ _ _ _ ?_)
  refine wpAny_newFunctionEnv_cells hk (kindsX hkind _) fun env' he s' x => ?_
  subst he
  refine ⟨(T.nolimit.keeps F.keep).keeps x.toInCall.keep, codeAny_func ?_⟩
  obtain ⟨h₁, tk, rfl, _⟩ := x.done
  have kept := x.toInCall.keep
  obtain ⟨cells, NC, Y⟩ := Cl.news (h₀ := s.heap) (Nat.le_refl _) fun n c hm => ⟨x.cell n c (lookup_of_mem_nodup (cellsFrom_names scope.names 0 (s.heap.objs.size + 1) [] [] rfl ▸ hnd) hm), x.above n c hm⟩
  have led : News (hideAll s.heap (news.map (·.1))) s.heap.objs.size h₁ (cells ++ news) := fun q hq => by
    rcases List.mem_append.mp hq with hq | hq
    · refine ⟨(NC q hq).1, (NC q hq).2.1, ?_⟩
      cases e : (hideAll s.heap (news.map (·.1))).get? q.1 with
      | none => rfl
      | some o => have z := of_hideAll _ e; rw [(NC q hq).2.2] at z; cases z
    · exact ⟨kept _ _ (N q hq).1, Nat.ne_of_lt (Heap.lt_size (N q hq).1), hideAll_none _ (List.mem_map_of_mem hq)⟩
  refine wpAny_mono (h _ s.heap.objs.size h₁ tk cells FG ⟨x.toInCall.ns, fun b o e => kept b o (of_hideAll _ e), Nat.le_of_eq (hideAll_size _ _)⟩ led Y BG (X₀.keeps st) (T.keeps st) (fun b hb => ?_) fun q hq => Heap.lt_size (N q hq).1)
    (fun fl s' hl => ?_) fun _ _ y => y
  · obtain ⟨o, es, ep, ho, hd, _⟩ := FG.ns
    rw [List.mem_singleton.mp hb]
    exact ⟨o, es, ep, ho, hd⟩
  · obtain ⟨g', L₂, m', news', T', F', N', k⟩ := hl
    obtain ⟨a, b⟩ := back_turned F FG T' F' N'
    exact k a b
end
end Jn
end
namespace Mine02
theorem rest21 : True ∧ True := by w_top off; first | (walk1; all_goals trivial) | exact ⟨trivial, trivial⟩
end Mine02

section
open PySem PySem.W PySem.Spec PySem.Calls PyProof.Rows
namespace Jn
section
variable {prog : Program} {w : World} {A A₀ : Around} {E : Value → Shared → Prop} {s' : Shared} {base g g₀ G : Heap} {env : Env} {outer : List Env} {L e : Addr} {m : Str → Option Value} {b₀ : Stmt} {suite body : List Stmt} {nm : Option Str} {pos : Pos} {rest hs : List ExceptHandler} {Q : Flow → Shared → Prop} {news : List (Addr × Obj)} {KF : Frag}
  {p : Program} {loose : List Str} {mean : ExcName → Option Value} {mg mb : Str → Option Value} {cls : Value} {tt : Expr} {b : Bool}
/-- an except clause's test, out of any frame -/
abbrev TestX (prog : Program) (w : World) (K : Frag) (p : Program) (loose : List Str) (mg mb : Str → Option Value) (env : Env) (L : Addr) (cls : Value) (t : Expr) (b : Bool) : Prop :=
  ∀ (A : Around) (E : Value → Shared → Prop) (Q : Bool → Shared → Prop) (s : Shared) (g : Heap) (e : Addr) (m : Str → Option Value), Fr g L s.heap m → K.In g → TopRead p loose mg mb g → Looks (model prog w) s.heap (typeOf (.ref e)) cls →
    (∀ h', (∀ q o, s.heap.get? q = some o → h'.get? q = some o) → Q b { s with heap := h' }) → wpAny (model prog w) A (eval t env) (fun c s₁ => wpAny (model prog w) A (excMatches (.ref e) c) Q E s₁) E s
theorem noteX (R : RaisedSN base G (env :: outer) e cls news s'.heap) (hA : A.frames = some (env :: outer)) (hf : env.frame = some L) (hsm : G.UpToSlots s'.heap)
    (k : ∀ h', RaisedSN base G (env :: outer) e cls news h' → G.UpToSlots h' → wpAny (model prog w) A (handleBy (.ref e) env hs) Q E { s' with heap := h' }) :
    wpAny (model prog w) A (noteFrame (.ref e) env) (fun _ s₂ => wpAny (model prog w) A (setFlight (.ref e) none) (fun _ s₃ => wpAny (model prog w) A (handleBy (.ref e) env hs) Q E s₃) E s₂) E s' := by
  obtain ⟨B, a0, hB, hBG, hl, hfl⟩ := R
  refine wpAny_looks_onW hA hf hfl fun h₄ held up => ?_
  refine wpAny_landsW held fun h₅ fly up' => ?_
  exact k h₅ ⟨B, a0, hB, hBG, hl, fly⟩ (hsm.trans (up.trans up'))
theorem groundE {B h₅ : Heap} (hf : env.frame = some L) (K : Below A₀ base outer g) (F : Fr g L G m) (hBG : ∀ b o, G.get? b = some o → b ∉ (env :: outer).filterMap (·.frame) → B.get? b = some o) (hBh : B.StaysIn h₅) (hsm : G.UpToSlots h₅) :
    ∃ g', KtsTurn (outer.filterMap (·.frame)) g g' ∧ Fr g' L h₅ m ∧ Below A₀ base outer g' :=
  kts_ground (name := Str.ofString "") (scope := env.scope) (a := L) (cd := .none) K F (fun b o q nm => hBG b o q (by
    rw [List.filterMap_cons_some hf]
    exact nm)) hBh hsm
theorem passX (R : RaisedSN base G (env :: outer) e cls news s'.heap) (hf : env.frame = some L) (F : Fr g L G m) (K : Below A₀ base outer g) (hsm : G.UpToSlots s'.heap) (XB : KF.In base) (TB : Top p loose mean mg mb base)
    (T : TestX prog w KF p loose mg mb env L cls tt false)
    (k : ∀ h', RaisedSN base G (env :: outer) e cls news h' → G.UpToSlots h' → wpAny (model prog w) A (handleBy (.ref e) env rest) Q E { s' with heap := h' }) :
    wpAny (model prog w) A (handleBy (.ref e) env (.ExceptHandler (some tt) nm body pos :: rest)) Q E s' := by
  have R' := R
  obtain ⟨B, a0, hB, hBG, hl, hfl⟩ := R'
  obtain ⟨g₅, T₅, F₅, K₅⟩ := groundE hf K F hBG hfl.1 hsm
  refine wpAny_handleBy_cons (codeAny_handlers_test (T _ _ _ _ g₅ e m F₅ (XB.keeps K₅.stays) (topRead_of (TB.keeps K₅.stays)) R.ty fun h' kp => ?_)) (by intro q; cases q)
  exact k h' (R.keeps kp) (hsm.trans (Heap.UpToSlots.of_keeps kp))
theorem hitX (R : RaisedSN base G (env :: outer) e cls news s'.heap) (hf : env.frame = some L) (F : Fr g L G m) (K : Below A₀ base outer g) (hsm : G.UpToSlots s'.heap) (XB : KF.In base) (TB : Top p loose mean mg mb base)
    (D : KtsDicts (outer.filterMap (·.frame)) g) (T : TestX prog w KF p loose mg mb env L cls tt true)
    (k : ∀ h' g', KtsTurn (outer.filterMap (·.frame)) g g' → Fr g' L h' m → News g' L h' news → Below A₀ base outer g' → KF.In g' → Top p loose mean mg mb g' → KtsDicts (outer.filterMap (·.frame)) g' →
      wpAny (model prog w) (A.mark (some (.ref e))) (execs (b₀ :: suite) env) Q E { s' with heap := h' })
    (hE : PassesOwnAt (model prog w) (A.mark (some (.ref e))) A env E) :
    wpAny (model prog w) A (handleBy (.ref e) env (.ExceptHandler (some tt) none (b₀ :: suite) pos :: rest)) Q E s' := by
  have R' := R
  obtain ⟨B₁, a1, _, hBG₁, _, hfl₁⟩ := R'
  obtain ⟨g₅, T₅, F₅, K₅⟩ := groundE hf K F hBG₁ hfl₁.1 hsm
  refine wpAny_handleBy_cons (codeAny_handlers_test (T _ _ _ _ g₅ e m F₅ (XB.keeps K₅.stays) (topRead_of (TB.keeps K₅.stays)) R.ty fun h₅ kp => ?_)) (by intro q; cases q)
  have up : G.UpToSlots h₅ := hsm.trans (Heap.UpToSlots.of_keeps kp)
  obtain ⟨B, a0, hB, hBG, hl, held⟩ := R.keeps kp
  have hL : B.get? L = none := by
    obtain ⟨_, ⟨L', _, hf', hn', _⟩, _⟩ := held.2.2.1
    rw [hf] at hf'
    obtain rfl : L = L' := Option.some.inj hf'
    exact hn'
  refine codeAny_handlers_suite ?_
  refine lands_againW held fun h₆ fly up6 => ?_
  obtain ⟨g₆, T₆, F₆, K₆⟩ := groundE hf K F hBG fly.1 (up.trans up6)
  refine wpAny_passesOwnAt hE (k h₆ g₆ T₆ F₆ (fun q hq => ⟨fly.1 _ _ (hl q hq).1, fun z => ?_, T₆.none_ _ (kts_none F.keep (hl q hq).2.1)⟩) K₆ (XB.keeps K₆.stays) (TB.keeps K₆.stays) (D.turn T₆))
  have := (hl q hq).1
  rw [z, hL] at this
  cases this
theorem testX {K : Frag} {cn x : Str} {cs : Scope} {a : Addr} {ccd c : Value} {cl : List (Str × Addr)} {np : Pos} (hc : KtsName K x c) (he : exmOne K cls c = some b) (hk : cs.kind = .function) (hx : (envX cn cs L a ccd cl).kindOf x = some .globalImplicit) (hd : (x == ("__debug__" : Str)) = false) :
    TestX prog w K p loose mg mb (envX cn cs L a ccd cl) L cls (.Name x np) b := fun A E Q s g e m F X T LT q => by
  rcases hc with e1 | ⟨e1, hv, hn⟩
  · exact nameX_K F X T e1 ((exm_one (X.keeps F.keep) LT he).here (q s.heap fun _ _ z => z)) hk hx hd
  · exact nameX_B F X T e1 hv hn ((exm_one (X.keeps F.keep) LT he).here (q s.heap fun _ _ z => z)) hk hx hd
end
end Jn
end
namespace Mine02
theorem rest22 : True ∧ True := by w_top off; first | (walk1; all_goals trivial) | exact ⟨trivial, trivial⟩
end Mine02

section
namespace Mine02
open DivM Lp Bm

theorem notin_ints {prog : Program} {w : World} {A : Around} {E : Value → Shared → Prop} {s : Shared} {h₀ : Heap} {L : Addr} {news : List (Addr × Obj)} {l : Addr} {vs : List Value} {ns : List Int} {k : Int} {t : Tok} {Q : Value → Shared → Prop}
    (N : News h₀ L s.heap news) (hm : (l, LCg.lst vs) ∈ news) (hi : IntsAre vs ns) (h : Q (.bool (!(ns.any (· == k)))) s) : wpAny (model prog w) A (compareOp .NotIn (.int k t) (.ref l)) Q E s :=
  notin_list_ints ⟨_, (N _ hm).1, rfl, _, rfl⟩ hi h
theorem my_powV {prog : Program} {w : World} {A : Around} {E : Value → Shared → Prop} {s : Shared} {b : Int} {t u : Tok} {Q : Value → Shared → Prop} (h0 : 0 ≤ b) (h1 : b ≤ 60000) (h : ∀ v : Int, IsPw v b → 0 < v → Q (.int v s.toks) { s with toks := s.toks + 1 }) :
    wpAny (model prog w) A (binaryOp .Pow (.int 2 t) (.int b u)) Q E s :=
  pow_int_small h0 (by omega) (by decide) (h _ rfl (two_pow_pos _))
theorem my_mulS {prog : Program} {w : World} {A : Around} {E : Value → Shared → Prop} {s : Shared} {a b : Int} {t u : Tok} {Q : Value → Shared → Prop} (h1 : 0 ≤ a ∧ a < 1073741824) (h2 : 0 ≤ b ∧ b < 1073741824) (h : Q (.int (a * b) s.toks) { s with toks := s.toks + 1 }) : wpAny (model prog w) A (binaryOp .Mult (.int a t) (.int b u)) Q E s := by
  have e1 := bits_le (a := a) (m := 30) h1.1 (by omega)
  have e2 := bits_le (a := b) (m := 30) h2.1 (by omega)
  exact my_mul (by omega) h
theorem item_rows {b₀ : Nat} {prog : Program} {w : World} {A : Around} {E : Value → Shared → Prop} {s : Shared} {h₀ : Heap} {L : Addr} {news nx : List (Addr × Obj)} {value slice : Expr} {l : Addr} {vs : Array Value} {c : Nat} {as : List Arc} {a : Arc} {k : Int} {u : Tok} {Q : Value → Shared → Prop}
    (N : News h₀ L s.heap news) (hm : (l, ({ cls := .type "list", data := .seq vs c } : Obj)) ∈ news) (hr : RowsAre b₀ nx vs.toList as) (h0 : 0 ≤ k) (hk : k ≤ 100) (ha : as[k.toNat]? = some a)
    (h : ∀ T F tb ta tn t0 t1 t2 t3 t4 t5 c c', (T, ({ cls := .type "tuple", data := .seq #[.int a.bg tb, .int a.ah ta, .ref F, .int (beN a.bytes) tn] c } : Obj)) ∈ nx →
      (F, ({ cls := .type "list", data := .seq #[.int a.f0 t0, .int a.f1 t1, .int a.f2 t2, .int a.f3 t3, .int a.ln t4, .int (a.ah - a.ln) t5] c' } : Obj)) ∈ nx → Q (.ref T) s)
    (hs : subscripted slice false (.ref l) (.int k u) = operate [.ref l, .int k u] (getItem (.ref l) (.int k u)) := by with_unfolding_all rfl) :
    wpAny (model prog w) A (subscriptTail value slice (.ref l) (.int k u)) Q E s := by
  obtain ⟨v, e1, T, F, tb, ta, tn, t0, t1, t2, t3, t4, t5, c1, c', rfl, gT, gF, hT, hF⟩ := hr.at_ k.toNat a ha
  refine my_item N hm h0 (by omega) (v := .ref T) ?_ (h T F tb ta tn t0 t1 t2 t3 t4 t5 c1 c' hT hF) hs
  rw [← Array.getElem?_toList]
  exact e1
theorem off_rows {b₀ : Nat} {all nx : List (Addr × Obj)} {vs : List Value} {as : List Arc} {x : Nat} (R : RowsAre b₀ nx vs as) (hs : ∀ q ∈ nx, q ∈ all) (hx : x < b₀) : RowsAre b₀ (offL all [x]) vs as :=
  ⟨R.len, fun i a e => let ⟨v, e1, T, F, tb, ta, tn, t0, t1, t2, t3, t4, t5, c, c', e2, gT, gF, hT, hF⟩ := R.at_ i a e
    ⟨v, e1, T, F, tb, ta, tn, t0, t1, t2, t3, t4, t5, c, c', e2, gT, gF, offL_mem (hs _ hT) (fun y hy => by rw [List.mem_singleton.mp hy]; exact Nat.ne_of_gt (Nat.lt_trans hx gT)), offL_mem (hs _ hF) (fun y hy => by rw [List.mem_singleton.mp hy]; exact Nat.ne_of_gt (Nat.lt_trans hx gF))⟩⟩
theorem pile_bits {as : List Arc} {i : Nat} {z : Int} (K : Stk as z) (hl : ((pileB (as.take i)).length : Int) ≤ 2776) : (Builtin.Int.intBits (beN (pileB (as.take i))) : Int) ≤ 22208 := by
  have := be_bits (pileB (as.take i))
  omega
theorem size_le {as : List Arc} {z : Int} (K : Stk as z) (i : Nat) : 0 ≤ sizeA (as.take i) ∧ sizeA (as.take i) ≤ 2776 := by
  have e := pile_len (as := as.take i) fun b hb => K.ok b (List.mem_of_mem_take hb)
  have e2 := pile_len K.ok
  have e3 : pileB as = pileB (as.take i) ++ pileB (as.drop i) := by rw [← pile_app, List.take_append_drop]
  rw [e3, List.length_append, ← K.sz] at e2
  have := K.lim.1
  omega
theorem slice_take {items : Array Value} {x : Int} (h : 0 ≤ x) : (slicePick items none (some x) none).toList = items.toList.take x.toNat := by
  obtain ⟨n, rfl⟩ := Int.eq_ofNat_of_zero_le h
  rw [slicePick_upto']
  rfl
theorem slice_size {items : Array Value} {i : Nat} (h : i ≤ items.size) : (slicePick items none (some (i : Int)) none).size = i := by
  rw [← Array.length_toList, slice_take (by omega), List.length_take, Array.length_toList]
  omega
theorem slice_at {items : Array Value} {i j : Nat} {v : Value} (h : (slicePick items none (some (i : Int)) none)[j]? = some v) : items[j]? = some v := by
  rw [← Array.getElem?_toList, slice_take (by omega)] at h
  rw [← Array.getElem?_toList]
  rw [List.getElem?_take] at h
  split at h
  · exact h
  · cases h
theorem ints_arc {ys : List Value} {as : List Arc} {i : Nat} {b : Arc} {t : Tok} {y : Int} (h : IntsAre ys ((as.take i).map fun b => b.bg + b.ah)) (hb : as[i]? = some b) (e : y = b.bg + b.ah) : IntsAre (ys ++ [.int y t]) ((as.take (i + 1)).map fun b => b.bg + b.ah) := by
  rw [take_snoc hb, List.map_append, List.map_singleton, ← e]
  exact IntsAre.append h (.cons _ t .nil)
abbrev rowA (b0 b8 : Array UInt8) (i1 i2 i3 i4 i5 i6 i7 i9 : Int) (x0 x1 x2 x3 x4 x5 x6 x7 x8 x9 : Tok) : Array Value := #[.bytes b0 x0, .int i1 x1, .int i2 x2, .int i3 x3, .int i4 x4, .int i5 x5, .int i6 x6, .int i7 x7, .bytes b8 x8, .int i9 x9]
/-- two rows alike -/
inductive RowsEq (r d : Array Value) : Prop
  | mk (b0 b8 : Array UInt8) (i1 i2 i3 i4 i5 i6 i7 i9 : Int) (x0 x1 x2 x3 x4 x5 x6 x7 x8 x9 y0 y1 y2 y3 y4 y5 y6 y7 y8 y9 : Tok) (e1 : r = rowA b0 b8 i1 i2 i3 i4 i5 i6 i7 i9 x0 x1 x2 x3 x4 x5 x6 x7 x8 x9) (e2 : d = rowA b0 b8 i1 i2 i3 i4 i5 i6 i7 i9 y0 y1 y2 y3 y4 y5 y6 y7 y8 y9) : RowsEq r d
section
open PySem.SeqAt
variable {A : Around} {s : Shared}
theorem eqAt_bytes (b : Array UInt8) (t u : Tok) : EqAt A s (.bytes b t) (.bytes b u) true := fun prog w E Q h => by
  unfold eqBool
  refine wpAny_holding ?_
  refine wpAny_ite_split (fun _ => wpAny_bind (wpAny_rule (wpAny_pure h))) (fun _ => ?_)
  refine wpAny_bind ?_
  have e : (b.toList == b.toList) = true := by simp
  exact eq_bytes (prog := prog) (w := w) (A := A) (E := E) (by rw [e]; exact wpAny_truthy_bool h)
theorem eqAt_int (a : Int) (t u : Tok) : EqAt A s (.int a t) (.int a u) true := by
  have := EqAt.int_int (A := A) (s := s) a t a u
  rwa [beq_self_eq_true] at this
theorem ne_rows {prog : Program} {w : World} {E : Value → Shared → Prop} {g : Heap} {L : Addr} {na : List (Addr × Obj)} {Q : Value → Shared → Prop} {rw du : Addr} {crb cdu : Nat} {r d : Array Value} (N : News g L s.heap na)
    (h1 : (rw, listOf r crb) ∈ na) (h2 : (du, listOf d cdu) ∈ na) (e : RowsEq r d) (hu : A.units < cLine) (h : Q (.bool false) s) :
    wpAny (model prog w) A (compareOp .NotEq (.ref rw) (.ref du)) Q E s := by
  obtain ⟨b0, b8, i1, i2, i3, i4, i5, i6, i7, i9, x0, x1, x2, x3, x4, x5, x6, x7, x8, x9, y0, y1, y2, y3, y4, y5, y6, y7, y8, y9, rfl, rfl⟩ := e
  refine RcNeAt.lists (e := fun _ => true) ⟨_, (N _ h1).1, rfl, _, rfl⟩ ⟨_, (N _ h2).1, rfl, _, rfl⟩ rfl hu (fun j j1 j2 => ?_) prog w E Q ?_
  · match j, j1 with
    | 0, _ => exact eqAt_bytes _ _ _
    | 1, _ => exact eqAt_int _ _ _
    | 2, _ => exact eqAt_int _ _ _
    | 3, _ => exact eqAt_int _ _ _
    | 4, _ => exact eqAt_int _ _ _
    | 5, _ => exact eqAt_int _ _ _
    | 6, _ => exact eqAt_int _ _ _
    | 7, _ => exact eqAt_int _ _ _
    | 8, _ => exact eqAt_bytes _ _ _
    | 9, _ => exact eqAt_int _ _ _
    | j + 10, h => exact absurd h (by show ¬ j + 10 < 10; omega)
  · exact h
end
theorem ne_self {prog : Program} {w : World} {A : Around} {E : Value → Shared → Prop} {s : Shared} {b : Bool} {Q : Value → Shared → Prop} (h : Q (.bool false) s) : wpAny (model prog w) A (compareOp .NotEq (.bool b) (.bool b)) Q E s :=
  ne_bool (by rw [show (b != b) = false by simp]; exact h)
theorem add_lit {prog : Program} {w : World} {A : Around} {E : Value → Shared → Prop} {s : Shared} {h₀ : Heap} {L a b : Addr} {m : Str → Option Value} {news : List (Addr × Obj)} {v1 v2 : List Value} {c1 c2 : Nat} {Q : Value → Shared → Prop}
    (F : Fr h₀ L s.heap m) (N : News h₀ L s.heap news) (ha : (a, ({ cls := .type "list", data := .seq v1.toArray c1 } : Obj)) ∈ news) (hb : (b, ({ cls := .type "list", data := .seq v2.toArray c2 } : Obj)) ∈ news) (hz : v1.length + v2.length ≤ 100)
    (h : ∀ D h', Fr h₀ L h' m → News h₀ L h' ((D, listOf (v1 ++ v2).toArray 0) :: news) → (∀ p ∈ news, p.1 < D) → Q (.ref D) { s with heap := h' }) : wpAny (model prog w) A (binaryOp .Add (.ref a) (.ref b)) Q E s :=
  add_lists (hsz := by rw [sizeLine_eq]; omega) F N ⟨_, (N _ ha).1, rfl, _, rfl⟩ ⟨_, (N _ hb).1, rfl, _, rfl⟩ fun h' F' N' => h _ h' F' N' fun p hp => Heap.lt_size (N p hp).1
theorem copy_any {prog : Program} {w : World} {A : Around} {E : Value → Shared → Prop} {s : Shared} {h₀ : Heap} {L : Addr} {m : Str → Option Value} {news : List (Addr × Obj)} {l : Addr} {vs : Array Value} {c : Nat} {Q : Value → Shared → Prop}
    (F : Fr h₀ L s.heap m) (N : News h₀ L s.heap news) (hm : (l, ({ cls := .type "list", data := .seq vs c } : Obj)) ∈ news) (hz : vs.size ≤ 100)
    (h : ∀ D c h', Fr h₀ L h' m → News h₀ L h' ((D, listOf vs c) :: news) → (∀ q ∈ news, q.1 < D) → Q (.ref D) { s with heap := h' }) : wpAny (model prog w) A (call (.type "list") [.ref l]) Q E s :=
  list_copyK F N ⟨_, (N _ hm).1, rfl, _, rfl⟩ h (by rw [sizeLine_eq]; omega)
theorem mul_two {prog : Program} {w : World} {A : Around} {E : Value → Shared → Prop} {s : Shared} {a b v : Int} {t u : Tok} {Q : Value → Shared → Prop} (hv : IsPw v b) (hb : b ≤ 60000) (h0 : 0 ≤ a) (h1 : a < v) (h : Q (.int (2 * a) s.toks) { s with toks := s.toks + 1 }) :
    wpAny (model prog w) A (binaryOp .Mult (.int 2 t) (.int a u)) Q E s := by
  unfold IsPw at hv
  rw [hv] at h1
  have e1 := bits_le (a := a) (m := b.toNat) h0 h1
  have e2 : (Builtin.Int.intBits 2 : Int) ≤ 2 := by decide
  exact my_mul (by omega) h
theorem len_rows {prog : Program} {w : World} {A : Around} {E : Value → Shared → Prop} {s : Shared} {h₀ : Heap} {L : Addr} {news : List (Addr × Obj)} {l : Addr} {vs : Array Value} {c : Nat} {Q : Value → Shared → Prop}
    (N : News h₀ L s.heap news) (hm : (l, ({ cls := .type "list", data := .seq vs c } : Obj)) ∈ news) (hn : vs.size = 4) (h : ∀ t k, Q (.int 4 t) { s with toks := k }) :
    wpAny (model prog w) A (call (.builtin "len") [.ref l]) Q E s := my_lenL N hm (by omega) fun t k => by rw [hn]; exact h t k
theorem stPe2 {M A Q E s y0} (h : Blk (wpAny M A (call (Value.builtin "len") [Value.ref y0]) Q E s)) : wpAny M A (call (Value.builtin "len") [Value.ref y0]) Q E s := h
local macro_rules | `(tactic| walk_at "call builtin:len") => `(tactic| with_reducible refine stPe2 ?_)
theorem stPe1 {M A Q E s y0 y1 y2 y3 y4} (h : Blk (wpAny M A (subscriptTail y0 y1 (Value.ref y2) (Value.int y3 y4)) Q E s)) : wpAny M A (subscriptTail y0 y1 (Value.ref y2) (Value.int y3 y4)) Q E s := h
local macro_rules | `(tactic| walk_at "call ref") => `(tactic| refine Blk.out ?_)
local macro_rules | `(tactic| walk_at "subscriptTail") => `(tactic| with_reducible refine stPe1 ?_)
local macro_rules | `(tactic| walk_at "binaryOp LShift int int") => `(tactic| refine Blk.out ?_)
local macro_rules | `(tactic| walk_at "binaryOp Pow int int") => `(tactic| refine Blk.out ?_)
local macro_rules | `(tactic| walk_at "binaryOp Mult int int") => `(tactic| refine Blk.out ?_)
local macro_rules | `(tactic| walk_at "binaryOp Mod int int") => `(tactic| refine Blk.out ?_)
local macro_rules | `(tactic| walk_at "exec For Tuple Name cons nil") => `(tactic| refine Blk.out ?_)
local macro_rules | `(tactic| walk_at "exec For Name Call cons nil") => `(tactic| refine Blk.out ?_)
local macro_rules | `(tactic| walk_at "pyIter ref") => `(tactic| refine Blk.out ?_)
theorem stPe3 {M A Q E s y0 y1 y2 y3 y4 y5 y6 y7 y8 y9 y10 y11} (h : Blk (wpAny M A (execs (Stmt.Assign [Expr.Tuple y0 y1 y2] (Expr.Subscript y3 y4 y5) y6 :: y7 :: y8 :: y9 :: y10) y11) Q E s)) : wpAny M A (execs (Stmt.Assign [Expr.Tuple y0 y1 y2] (Expr.Subscript y3 y4 y5) y6 :: y7 :: y8 :: y9 :: y10) y11) Q E s := h
local macro_rules | `(tactic| walk_at "execs cons Assign") => `(tactic| with_reducible refine stPe3 ?_)
local macro_rules | `(tactic| walk_at "eval ListComp") => `(tactic| refine Blk.out ?_)
local macro_rules | `(tactic| walk_at "compareOp NotIn int ref") => `(tactic| refine Blk.out ?_)
local macro_rules | `(tactic| walk_at "Exists") => `(tactic| refine Blk.out ?_)
local macro_rules | `(tactic| walk_at "CompSrc") => `(tactic| refine Blk.out ?_)
theorem stPe4 {M A Q E s y0 y1 y2 y3 y4} (h : Blk (wpAny M A (subscriptTail y0 (Expr.Slice none (some y1) none y2) (Value.ref y3) (Value.ref y4)) Q E s)) : wpAny M A (subscriptTail y0 (Expr.Slice none (some y1) none y2) (Value.ref y3) (Value.ref y4)) Q E s := h
local macro_rules | `(tactic| walk_at "subscriptTail Name Slice ref ref") => `(tactic| with_reducible refine stPe4 ?_)
theorem stPe5 {M A Q E s y0} (h : Blk (wpAny M A (call (Value.type "list") [Value.ref y0]) Q E s)) : wpAny M A (call (Value.type "list") [Value.ref y0]) Q E s := h
local macro_rules | `(tactic| walk_at "call type:list") => `(tactic| with_reducible refine stPe5 ?_)
local macro_rules | `(tactic| walk_at "binaryOp Add ref ref") => `(tactic| refine Blk.out ?_)
local macro_rules | `(tactic| walk_at "compareOp NotEq bool bool") => `(tactic| refine Blk.out ?_)
local macro_rules | `(tactic| walk_at "compareOp NotEq ref ref") => `(tactic| refine Blk.out ?_)
local macro_rules | `(tactic| walk_at "exec Try") => `(tactic| (refine wpAny_Try_except ?_; (try k_fold)))
theorem stPe6 {M A Q E s y0 y1 y2 y3 y4 y5 y6 y7 y8 y9} (h : Blk (wpAny M A (execs (Stmt.If (Expr.BoolOp y0 y1 y2) y3 y4 y5 :: y6 :: y7 :: y8) y9) Q E s)) : wpAny M A (execs (Stmt.If (Expr.BoolOp y0 y1 y2) y3 y4 y5 :: y6 :: y7 :: y8) y9) Q E s := h
section
variable {prog : Program} {w : World} {p : Program} {loose : List Str} {mean : ExcName → Option Value} {mg mb : Str → Option Value}
  {dp un : Nat} {gd : Option (List Code)} {cn : Str} {cs : Scope} {ad : Addr} {ccd : Value} {cl : List (Str × Addr)} {A₀ : Around} {base h₀ : Heap} {L : Addr} {m : Str → Option Value} {news : List (Addr × Obj)} {s : Shared} {Q E : Value → Shared → Prop}
theorem peel_call {cc : Addr} {v0 v1 v2 v3 : Value} {cnn : Nat} {M : Int} (hM : M ≤ 4194304) (hxs : ∀ v ∈ (#[v0, v1, v2, v3] : Array Value).toList, IntB M v)
    (XB : (hd.heap_39 w.params).In base) (TB : Top p loose mean mg mb base)
    (hcc : (cc, ({ cls := .type "list", data := .seq #[v0, v1, v2, v3] cnn } : Obj)) ∈ news) (C : CodeHd base 143 139) (hn139 : ∀ p ∈ news, p.1 ≠ 139)
    (H : Here w p loose mean mg mb 20 dp un cs [] A₀ base h₀ L m ((139, tabObj #[]) :: news) s.heap)
    (hret : ∀ h' tk' tb nx, Fr h₀ L h' m → News h₀ L h' ((139, tabObj tb) :: nx) → Q (.bool true) { s with heap := h', toks := tk' }) :
    wpAny (model prog w) (ktrTop dp un gd cn cs L ad ccd cl []) (call (.ref 156) [.ref cc]) Q E s := by
  obtain ⟨B, F, X, N, T, hk, hdp, hu⟩ := H
  refine wpAny_call ?_
  refine' Jn.enterS ?k1 ?k2 ?k3 ?k4 ?k5 ?kA ?kF ?kK ?k6 ?k7 ?k8 ?k9 ?kB ?_ ?c2 ?c3 ?c4 ?c5
  case kA => exact rfl
  case kF => exact rfl
  case kK => assumption
  case k1 => k_asm
  case k2 => k_asm
  case k3 => k_asm
  case k4 => k_asm
  case k5 => k_asm
  case k6 => k_is
  case k7 => k_is
  case k8 => ktr_room
  case k9 => exact BindsTo.of_eq rfl
  case kB => exact locs rfl
  case c2 => exact rfl
  case c3 => exact rfl
  case c4 => exact rfl
  case c5 => decide
  k_whole
  intro g L1 h1 FG F1 N1 B1 X1 T1 D1
  (try dsimp only)
  (try k_lift B1)
  (try k_fold)
  have F1 := fr_nm F1 (ps := [("cells", .ref cc)]) (nm_cons (by with_unfolding_all rfl) nm_nil)
  let Jc : Heap → Prop := fun h' => ∀ G : Prop, (∀ (m' : Str → Option Value) (rw : Addr) (vs : Array Value) (c : Nat) (nx : List (Addr × Obj)) (as : List Arc) (z : Int) (tp tz : Tok), Fr g L1 h' m' → News g L1 h' ((139, tabObj #[]) :: nx) → NmAre m' [("cells", .ref cc), ("rows", .ref rw), ("pile", .int 0 tp), ("size", .int 0 tz)] → Off nx news [139] → (rw, listOf vs c) ∈ nx → RowsAre rw nx vs.toList as → Stk as z → as.length = 4 → @LT.lt Nat instLTNat 139 rw → G) → G
  with_reducible refine Jn.ckpt 3 Jc ?_ ?_
  · dsimp only [List.take]
    k_fold
    (repeat' (first | ((with_reducible refine Blk.into ?_); (first | ((with_reducible show wpAny _ _ (call (Value.type "list") [Value.ref _]) _ _ _); (k_dflt (refine copy_any (by k_asm) (by k_asm) (by repeat (first | with_reducible assumption | exact List.Mem.head _ | refine memS ?_)) (by (simp only [List.size_toArray, List.length_cons, List.length_nil]; omega)) ?_)); intro Dq cq hq Fq Nq lq1; (try k_lt lq1); (try k_sweep)) | ((with_reducible show wpAny _ _ (binaryOp .Add (Value.ref _) (Value.ref _)) _ _ _); (k_dflt (refine add_lit (by k_asm) (by k_asm) (by repeat (first | with_reducible assumption | exact List.Mem.head _ | refine memS ?_)) (by repeat (first | with_reducible assumption | exact List.Mem.head _ | refine memS ?_)) (by (simp only [List.length_cons, List.length_nil]; omega)) ?_)); intro Dq hq Fq Nq lq1; (simp only [List.cons_append, List.nil_append] at Nq); (try k_lt lq1); (try k_sweep)) | ((with_reducible show wpAny _ _ (compareOp .NotEq (Value.bool _) (Value.bool _)) _ _ _); (with_reducible refine ne_self ?_)) | ((with_reducible show wpAny _ _ (compareOp .NotEq (Value.ref _) (Value.ref _)) _ _ _); (refine ne_rows (by k_asm) (by with_reducible assumption) (by with_reducible assumption) (by with_reducible assumption) (by ((try simp only [units_deeper, units_in1, ktrTop, cLine_is]); omega)) ?_)) | (with_reducible ((with_reducible show wpAny _ _ (subscriptTail _ (Expr.Slice none (some _) none _) (Value.ref _) (Value.ref _)) _ _ _); k_dflt (refine' kmk_slice (by k_asm) (by k_asm) (by kmk_list) (by kmk_part) (by kmk_part) ?_ (by with_unfolding_all rfl) (by kmk_pure) (by (show _ ≤ 16777216; omega))); intro D' h' F' N' l1; (try k_lt l1); (try k_sweep))) | ((with_reducible show wpAny _ _ (compareOp .NotIn (Value.int _ _) (Value.ref _)) _ _ _); (refine notin_ints (by k_asm) (by exact List.Mem.head _) (by with_reducible assumption) ?_)) | ((with_reducible show wpAny _ _ (call (Value.builtin "len") [Value.ref _]) _ _ _); k_dflt (refine len_rows (by k_asm) (by repeat (first | with_reducible assumption | exact List.Mem.head _ | refine memS ?_)) (by with_reducible assumption) ?_); intro _ _) | ((with_reducible show wpAny _ _ (subscriptTail _ _ (Value.ref _) (Value.int _ _)) _ _ _); k_dflt (first | (refine item_rows (by k_asm) (by repeat (first | with_reducible assumption | refine memS ?_)) (by with_reducible assumption) (by omega) (by omega) (by with_reducible assumption) ?_ (by with_unfolding_all rfl); intro T9 F9 tb9 ta9 tn9 u0 u1 u2 u3 u4 u5 c9 c9' hT9 hF9) | (refine item_tupleT (News.isTup (by k_asm) (by repeat (first | with_reducible assumption | refine memS ?_))) (by decide) (by decide) (by rfl) (by rfl) ?_) | (refine item_ints (by k_asm) (by repeat (first | with_reducible assumption | refine memS ?_)) hxs (by omega) (by (first | omega | (simp only [List.size_toArray, List.length_cons, List.length_nil]; omega))) (by (simp only [List.size_toArray, List.length_cons, List.length_nil]; omega)) ?_ (by with_unfolding_all rfl); intro x9 tx9 hx9) | (refine my_item (by k_asm) (by repeat (first | with_reducible assumption | refine memS ?_)) (by decide) (by decide) (by with_unfolding_all rfl) ?_ (by with_unfolding_all rfl))); (try simp only [Int.reduceToNat, List.getElem_toArray, List.getElem_cons_zero, List.getElem_cons_succ])) | ((with_reducible show wpAny _ _ (binaryOp .LShift (Value.int _ _) (Value.int _ _)) _ _ _); (refine my_lshift (by omega) (by omega) ?_); intro v9 ev9) | ((with_reducible show wpAny _ _ (binaryOp .Pow (Value.int 2 _) (Value.int _ _)) _ _ _); (refine my_powV (by omega) (by omega) ?_); intro v9 pv9 gv9) | ((with_reducible show wpAny _ _ (binaryOp .Mult (Value.int _ _) (Value.int _ _)) _ _ _); (first | refine my_mulS (by omega) (by omega) ?_ | with_reducible refine mul_two (by with_reducible assumption) (by omega) (by with_reducible assumption) (by with_reducible assumption) ?_ | refine my_mul (by omega) ?_)) | ((with_reducible show wpAny _ _ (binaryOp .Mod (Value.int _ _) (Value.int _ _)) _ _ _); (refine my_mod (by omega) ?_); intro r9 er9 r09 r19))) | (k_unfold; (try dsimp only)) | (k_end; wrow_close) | walk1 | (dsimp only; walk1) | (leave1; (try dsimp only))))
    refine Blk.into ?_
    k_dflt (refine' rows_call (news := (139, tabObj #[]) :: news) hM hxs ?hcc ?H ?_)
    case hcc => exact memS hcc
    case H => exact ⟨by k_asm, by k_asm, by k_asm, by k_asm, by k_asm, by first | exact rfl | (first | with_reducible assumption | assumption), by (simp only [depth_deeper, depth_in1, ktrTop]; omega), by (simp only [units_deeper, units_in1, ktrTop]; omega)⟩
    intro rw vs c nx as z h' tk' F' N' S hrw R K hn
    (repeat' (first | ((with_reducible refine Blk.into ?_); (first | ((with_reducible show wpAny _ _ (call (Value.type "list") [Value.ref _]) _ _ _); (k_dflt (refine copy_any (by k_asm) (by k_asm) (by repeat (first | with_reducible assumption | exact List.Mem.head _ | refine memS ?_)) (by (simp only [List.size_toArray, List.length_cons, List.length_nil]; omega)) ?_)); intro Dq cq hq Fq Nq lq1; (try k_lt lq1); (try k_sweep)) | ((with_reducible show wpAny _ _ (binaryOp .Add (Value.ref _) (Value.ref _)) _ _ _); (k_dflt (refine add_lit (by k_asm) (by k_asm) (by repeat (first | with_reducible assumption | exact List.Mem.head _ | refine memS ?_)) (by repeat (first | with_reducible assumption | exact List.Mem.head _ | refine memS ?_)) (by (simp only [List.length_cons, List.length_nil]; omega)) ?_)); intro Dq hq Fq Nq lq1; (simp only [List.cons_append, List.nil_append] at Nq); (try k_lt lq1); (try k_sweep)) | ((with_reducible show wpAny _ _ (compareOp .NotEq (Value.bool _) (Value.bool _)) _ _ _); (with_reducible refine ne_self ?_)) | ((with_reducible show wpAny _ _ (compareOp .NotEq (Value.ref _) (Value.ref _)) _ _ _); (refine ne_rows (by k_asm) (by with_reducible assumption) (by with_reducible assumption) (by with_reducible assumption) (by ((try simp only [units_deeper, units_in1, ktrTop, cLine_is]); omega)) ?_)) | (with_reducible ((with_reducible show wpAny _ _ (subscriptTail _ (Expr.Slice none (some _) none _) (Value.ref _) (Value.ref _)) _ _ _); k_dflt (refine' kmk_slice (by k_asm) (by k_asm) (by kmk_list) (by kmk_part) (by kmk_part) ?_ (by with_unfolding_all rfl) (by kmk_pure) (by (show _ ≤ 16777216; omega))); intro D' h' F' N' l1; (try k_lt l1); (try k_sweep))) | ((with_reducible show wpAny _ _ (compareOp .NotIn (Value.int _ _) (Value.ref _)) _ _ _); (refine notin_ints (by k_asm) (by exact List.Mem.head _) (by with_reducible assumption) ?_)) | ((with_reducible show wpAny _ _ (call (Value.builtin "len") [Value.ref _]) _ _ _); k_dflt (refine len_rows (by k_asm) (by repeat (first | with_reducible assumption | exact List.Mem.head _ | refine memS ?_)) (by with_reducible assumption) ?_); intro _ _) | ((with_reducible show wpAny _ _ (subscriptTail _ _ (Value.ref _) (Value.int _ _)) _ _ _); k_dflt (first | (refine item_rows (by k_asm) (by repeat (first | with_reducible assumption | refine memS ?_)) (by with_reducible assumption) (by omega) (by omega) (by with_reducible assumption) ?_ (by with_unfolding_all rfl); intro T9 F9 tb9 ta9 tn9 u0 u1 u2 u3 u4 u5 c9 c9' hT9 hF9) | (refine item_tupleT (News.isTup (by k_asm) (by repeat (first | with_reducible assumption | refine memS ?_))) (by decide) (by decide) (by rfl) (by rfl) ?_) | (refine item_ints (by k_asm) (by repeat (first | with_reducible assumption | refine memS ?_)) hxs (by omega) (by (first | omega | (simp only [List.size_toArray, List.length_cons, List.length_nil]; omega))) (by (simp only [List.size_toArray, List.length_cons, List.length_nil]; omega)) ?_ (by with_unfolding_all rfl); intro x9 tx9 hx9) | (refine my_item (by k_asm) (by repeat (first | with_reducible assumption | refine memS ?_)) (by decide) (by decide) (by with_unfolding_all rfl) ?_ (by with_unfolding_all rfl))); (try simp only [Int.reduceToNat, List.getElem_toArray, List.getElem_cons_zero, List.getElem_cons_succ])) | ((with_reducible show wpAny _ _ (binaryOp .LShift (Value.int _ _) (Value.int _ _)) _ _ _); (refine my_lshift (by omega) (by omega) ?_); intro v9 ev9) | ((with_reducible show wpAny _ _ (binaryOp .Pow (Value.int 2 _) (Value.int _ _)) _ _ _); (refine my_powV (by omega) (by omega) ?_); intro v9 pv9 gv9) | ((with_reducible show wpAny _ _ (binaryOp .Mult (Value.int _ _) (Value.int _ _)) _ _ _); (first | refine my_mulS (by omega) (by omega) ?_ | with_reducible refine mul_two (by with_reducible assumption) (by omega) (by with_reducible assumption) (by with_reducible assumption) ?_ | refine my_mul (by omega) ?_)) | ((with_reducible show wpAny _ _ (binaryOp .Mod (Value.int _ _) (Value.int _ _)) _ _ _); (refine my_mod (by omega) ?_); intro r9 er9 r09 r19))) | (k_unfold; (try dsimp only)) | (k_end; wrow_close) | walk1 | (dsimp only; walk1) | (leave1; (try dsimp only))))
    have h139 : @LT.lt Nat instLTNat 139 rw := hrw _ (.head _)
    (refine ⟨_, _, rfl, ?_⟩; intro G k; refine k _ rw vs c (offL ((rw, listOf vs c) :: nx) [139]) as z _ _ (by k_asm) ?_ (by repeat (first | exact nm_nil | refine nm_cons (by with_unfolding_all rfl) ?_)) (offL_off (fun q hq => .tail _ (S.sub q (.tail _ hq))) (fun q hq y hy => by rw [List.mem_singleton.mp hy]; exact hn139 q hq)) (offL_mem (.head _) (fun y hy => by rw [List.mem_singleton.mp hy]; exact Nat.ne_of_gt h139)) (off_rows R (fun q hq => .tail _ hq) h139) K hn h139)
    exact cb_drop ‹_› (List.forall_mem_cons.mpr ⟨.tail _ (S.sub _ (.head _)), offL_sub⟩)
  intro h2 tk2 hJ
  with_reducible refine hJ _ ?_
  clear hJ Jc
  rintro m2 rw vs c nx as z tp tz F2 N2 M2 S hrm R K hn h139
  with_reducible refine fr_fold F2 M2 ?_
  clear F2 F1 N1
  intro mm F2
  dsimp only [List.drop]
  (repeat' (first | ((with_reducible refine Blk.into ?_); (first | ((with_reducible show wpAny _ _ (call (Value.type "list") [Value.ref _]) _ _ _); (k_dflt (refine copy_any (by k_asm) (by k_asm) (by repeat (first | with_reducible assumption | exact List.Mem.head _ | refine memS ?_)) (by (simp only [List.size_toArray, List.length_cons, List.length_nil]; omega)) ?_)); intro Dq cq hq Fq Nq lq1; (try k_lt lq1); (try k_sweep)) | ((with_reducible show wpAny _ _ (binaryOp .Add (Value.ref _) (Value.ref _)) _ _ _); (k_dflt (refine add_lit (by k_asm) (by k_asm) (by repeat (first | with_reducible assumption | exact List.Mem.head _ | refine memS ?_)) (by repeat (first | with_reducible assumption | exact List.Mem.head _ | refine memS ?_)) (by (simp only [List.length_cons, List.length_nil]; omega)) ?_)); intro Dq hq Fq Nq lq1; (simp only [List.cons_append, List.nil_append] at Nq); (try k_lt lq1); (try k_sweep)) | ((with_reducible show wpAny _ _ (compareOp .NotEq (Value.bool _) (Value.bool _)) _ _ _); (with_reducible refine ne_self ?_)) | ((with_reducible show wpAny _ _ (compareOp .NotEq (Value.ref _) (Value.ref _)) _ _ _); (refine ne_rows (by k_asm) (by with_reducible assumption) (by with_reducible assumption) (by with_reducible assumption) (by ((try simp only [units_deeper, units_in1, ktrTop, cLine_is]); omega)) ?_)) | (with_reducible ((with_reducible show wpAny _ _ (subscriptTail _ (Expr.Slice none (some _) none _) (Value.ref _) (Value.ref _)) _ _ _); k_dflt (refine' kmk_slice (by k_asm) (by k_asm) (by kmk_list) (by kmk_part) (by kmk_part) ?_ (by with_unfolding_all rfl) (by kmk_pure) (by (show _ ≤ 16777216; omega))); intro D' h' F' N' l1; (try k_lt l1); (try k_sweep))) | ((with_reducible show wpAny _ _ (compareOp .NotIn (Value.int _ _) (Value.ref _)) _ _ _); (refine notin_ints (by k_asm) (by exact List.Mem.head _) (by with_reducible assumption) ?_)) | ((with_reducible show wpAny _ _ (call (Value.builtin "len") [Value.ref _]) _ _ _); k_dflt (refine len_rows (by k_asm) (by repeat (first | with_reducible assumption | exact List.Mem.head _ | refine memS ?_)) (by with_reducible assumption) ?_); intro _ _) | ((with_reducible show wpAny _ _ (subscriptTail _ _ (Value.ref _) (Value.int _ _)) _ _ _); k_dflt (first | (refine item_rows (by k_asm) (by repeat (first | with_reducible assumption | refine memS ?_)) (by with_reducible assumption) (by omega) (by omega) (by with_reducible assumption) ?_ (by with_unfolding_all rfl); intro T9 F9 tb9 ta9 tn9 u0 u1 u2 u3 u4 u5 c9 c9' hT9 hF9) | (refine item_tupleT (News.isTup (by k_asm) (by repeat (first | with_reducible assumption | refine memS ?_))) (by decide) (by decide) (by rfl) (by rfl) ?_) | (refine item_ints (by k_asm) (by repeat (first | with_reducible assumption | refine memS ?_)) hxs (by omega) (by (first | omega | (simp only [List.size_toArray, List.length_cons, List.length_nil]; omega))) (by (simp only [List.size_toArray, List.length_cons, List.length_nil]; omega)) ?_ (by with_unfolding_all rfl); intro x9 tx9 hx9) | (refine my_item (by k_asm) (by repeat (first | with_reducible assumption | refine memS ?_)) (by decide) (by decide) (by with_unfolding_all rfl) ?_ (by with_unfolding_all rfl))); (try simp only [Int.reduceToNat, List.getElem_toArray, List.getElem_cons_zero, List.getElem_cons_succ])) | ((with_reducible show wpAny _ _ (binaryOp .LShift (Value.int _ _) (Value.int _ _)) _ _ _); (refine my_lshift (by omega) (by omega) ?_); intro v9 ev9) | ((with_reducible show wpAny _ _ (binaryOp .Pow (Value.int 2 _) (Value.int _ _)) _ _ _); (refine my_powV (by omega) (by omega) ?_); intro v9 pv9 gv9) | ((with_reducible show wpAny _ _ (binaryOp .Mult (Value.int _ _) (Value.int _ _)) _ _ _); (first | refine my_mulS (by omega) (by omega) ?_ | with_reducible refine mul_two (by with_reducible assumption) (by omega) (by with_reducible assumption) (by with_reducible assumption) ?_ | refine my_mul (by omega) ?_)) | ((with_reducible show wpAny _ _ (binaryOp .Mod (Value.int _ _) (Value.int _ _)) _ _ _); (refine my_mod (by omega) ?_); intro r9 er9 r09 r19))) | (k_unfold; (try dsimp only)) | (k_end; wrow_close) | walk1 | (dsimp only; walk1) | (leave1; (try dsimp only))))
  refine Blk.into ?_
  rename Fr g L1 _ _ => FW
  with_unfolding_all refine' For_turns FW ?h ?hs ?hE
  case hs => intro _; rfl
  case hE => first | passes_own | with_unfolding_all passes_own
  (repeat' (first | ((with_reducible refine Blk.into ?_); (first | ((with_reducible show wpAny _ _ (call (Value.type "list") [Value.ref _]) _ _ _); (k_dflt (refine copy_any (by k_asm) (by k_asm) (by repeat (first | with_reducible assumption | exact List.Mem.head _ | refine memS ?_)) (by (simp only [List.size_toArray, List.length_cons, List.length_nil]; omega)) ?_)); intro Dq cq hq Fq Nq lq1; (try k_lt lq1); (try k_sweep)) | ((with_reducible show wpAny _ _ (binaryOp .Add (Value.ref _) (Value.ref _)) _ _ _); (k_dflt (refine add_lit (by k_asm) (by k_asm) (by repeat (first | with_reducible assumption | exact List.Mem.head _ | refine memS ?_)) (by repeat (first | with_reducible assumption | exact List.Mem.head _ | refine memS ?_)) (by (simp only [List.length_cons, List.length_nil]; omega)) ?_)); intro Dq hq Fq Nq lq1; (simp only [List.cons_append, List.nil_append] at Nq); (try k_lt lq1); (try k_sweep)) | ((with_reducible show wpAny _ _ (compareOp .NotEq (Value.bool _) (Value.bool _)) _ _ _); (with_reducible refine ne_self ?_)) | ((with_reducible show wpAny _ _ (compareOp .NotEq (Value.ref _) (Value.ref _)) _ _ _); (refine ne_rows (by k_asm) (by with_reducible assumption) (by with_reducible assumption) (by with_reducible assumption) (by ((try simp only [units_deeper, units_in1, ktrTop, cLine_is]); omega)) ?_)) | (with_reducible ((with_reducible show wpAny _ _ (subscriptTail _ (Expr.Slice none (some _) none _) (Value.ref _) (Value.ref _)) _ _ _); k_dflt (refine' kmk_slice (by k_asm) (by k_asm) (by kmk_list) (by kmk_part) (by kmk_part) ?_ (by with_unfolding_all rfl) (by kmk_pure) (by (show _ ≤ 16777216; omega))); intro D' h' F' N' l1; (try k_lt l1); (try k_sweep))) | ((with_reducible show wpAny _ _ (compareOp .NotIn (Value.int _ _) (Value.ref _)) _ _ _); (refine notin_ints (by k_asm) (by exact List.Mem.head _) (by with_reducible assumption) ?_)) | ((with_reducible show wpAny _ _ (call (Value.builtin "len") [Value.ref _]) _ _ _); k_dflt (refine len_rows (by k_asm) (by repeat (first | with_reducible assumption | exact List.Mem.head _ | refine memS ?_)) (by with_reducible assumption) ?_); intro _ _) | ((with_reducible show wpAny _ _ (subscriptTail _ _ (Value.ref _) (Value.int _ _)) _ _ _); k_dflt (first | (refine item_rows (by k_asm) (by repeat (first | with_reducible assumption | refine memS ?_)) (by with_reducible assumption) (by omega) (by omega) (by with_reducible assumption) ?_ (by with_unfolding_all rfl); intro T9 F9 tb9 ta9 tn9 u0 u1 u2 u3 u4 u5 c9 c9' hT9 hF9) | (refine item_tupleT (News.isTup (by k_asm) (by repeat (first | with_reducible assumption | refine memS ?_))) (by decide) (by decide) (by rfl) (by rfl) ?_) | (refine item_ints (by k_asm) (by repeat (first | with_reducible assumption | refine memS ?_)) hxs (by omega) (by (first | omega | (simp only [List.size_toArray, List.length_cons, List.length_nil]; omega))) (by (simp only [List.size_toArray, List.length_cons, List.length_nil]; omega)) ?_ (by with_unfolding_all rfl); intro x9 tx9 hx9) | (refine my_item (by k_asm) (by repeat (first | with_reducible assumption | refine memS ?_)) (by decide) (by decide) (by with_unfolding_all rfl) ?_ (by with_unfolding_all rfl))); (try simp only [Int.reduceToNat, List.getElem_toArray, List.getElem_cons_zero, List.getElem_cons_succ])) | ((with_reducible show wpAny _ _ (binaryOp .LShift (Value.int _ _) (Value.int _ _)) _ _ _); (refine my_lshift (by omega) (by omega) ?_); intro v9 ev9) | ((with_reducible show wpAny _ _ (binaryOp .Pow (Value.int 2 _) (Value.int _ _)) _ _ _); (refine my_powV (by omega) (by omega) ?_); intro v9 pv9 gv9) | ((with_reducible show wpAny _ _ (binaryOp .Mult (Value.int _ _) (Value.int _ _)) _ _ _); (first | refine my_mulS (by omega) (by omega) ?_ | with_reducible refine mul_two (by with_reducible assumption) (by omega) (by with_reducible assumption) (by with_reducible assumption) ?_ | refine my_mul (by omega) ?_)) | ((with_reducible show wpAny _ _ (binaryOp .Mod (Value.int _ _) (Value.int _ _)) _ _ _); (refine my_mod (by omega) ?_); intro r9 er9 r09 r19))) | (k_unfold; (try dsimp only)) | (k_end; wrow_close) | walk1 | (dsimp only; walk1) | (leave1; (try dsimp only))))
  refine Blk.into ?_
  rename Fr g L1 _ _ => F3
  rename News g L1 _ _ => N3
  have hvs : vs.size = 4 := by have := R.len; rw [Array.length_toList] at this; omega
  refine' list_turns rfl F3 N3 (c := c) (vs := vs) (memS hrm) (fun (i : Nat) m₁ n₁ => n₁ = (139, tabObj #[]) :: nx ∧ ∃ (pl z' : Int) (tp tz : Tok), NmAre m₁ [("cells", .ref cc), ("rows", .ref rw), ("pile", .int pl tp), ("size", .int z' tz)] ∧ pl = beN (pileB (as.take i)) ∧ z' = sizeA (as.take i)) ?h01 ?hJ1 ?turn1 ?done1
  case h01 => exact ⟨rfl, 0, 0, tp, tz, by repeat (first | exact nm_nil | refine nm_cons (by with_unfolding_all rfl) ?_), rfl, rfl⟩
  case hJ1 =>
    rintro i m₁ n₁ ⟨rfl, _⟩
    exact memS hrm
  case turn1 =>
    rintro I i v m₁ n₁ h₁ tk₁ it hi hv ⟨rfl, pl, z', tp', tz', Mx, ep, ez⟩ hoff Fx Nx
    clear F3 N3
    with_reducible refine fr_fold Fx Mx ?_
    clear Fx
    intro mm Fx
    have ha : as[i]? = some as[i] := List.getElem?_eq_getElem (by omega)
    generalize as[i] = a at ha
    have ok := K.ok a (List.mem_of_getElem? ha)
    have le := K.le a (List.mem_of_getElem? ha)
    have l0 := ok.l0
    have l1 := ok.l1
    have zl := K.lim.1
    obtain ⟨v', e1, T', F', tb, ta, tn, t0, t1, t2, t3, t4, t5, c1, c1', rfl, gT, gF, hT, hF⟩ := R.at_ i a ha
    have ev : v = .ref T' := by rw [← Array.getElem?_toList, e1] at hv; exact (Option.some.inj hv).symm
    subst ev
    have hb : (Builtin.Int.intBits pl : Int) ≤ 22208 := by rw [ep]; exact pile_bits K (by rw [pile_len fun b hb => K.ok b (List.mem_of_mem_take hb)]; exact (size_le K i).2)
    (repeat' (first | ((with_reducible refine Blk.into ?_); (first | ((with_reducible show wpAny _ _ (call (Value.type "list") [Value.ref _]) _ _ _); (k_dflt (refine copy_any (by k_asm) (by k_asm) (by repeat (first | with_reducible assumption | exact List.Mem.head _ | refine memS ?_)) (by (simp only [List.size_toArray, List.length_cons, List.length_nil]; omega)) ?_)); intro Dq cq hq Fq Nq lq1; (try k_lt lq1); (try k_sweep)) | ((with_reducible show wpAny _ _ (binaryOp .Add (Value.ref _) (Value.ref _)) _ _ _); (k_dflt (refine add_lit (by k_asm) (by k_asm) (by repeat (first | with_reducible assumption | exact List.Mem.head _ | refine memS ?_)) (by repeat (first | with_reducible assumption | exact List.Mem.head _ | refine memS ?_)) (by (simp only [List.length_cons, List.length_nil]; omega)) ?_)); intro Dq hq Fq Nq lq1; (simp only [List.cons_append, List.nil_append] at Nq); (try k_lt lq1); (try k_sweep)) | ((with_reducible show wpAny _ _ (compareOp .NotEq (Value.bool _) (Value.bool _)) _ _ _); (with_reducible refine ne_self ?_)) | ((with_reducible show wpAny _ _ (compareOp .NotEq (Value.ref _) (Value.ref _)) _ _ _); (refine ne_rows (by k_asm) (by with_reducible assumption) (by with_reducible assumption) (by with_reducible assumption) (by ((try simp only [units_deeper, units_in1, ktrTop, cLine_is]); omega)) ?_)) | (with_reducible ((with_reducible show wpAny _ _ (subscriptTail _ (Expr.Slice none (some _) none _) (Value.ref _) (Value.ref _)) _ _ _); k_dflt (refine' kmk_slice (by k_asm) (by k_asm) (by kmk_list) (by kmk_part) (by kmk_part) ?_ (by with_unfolding_all rfl) (by kmk_pure) (by (show _ ≤ 16777216; omega))); intro D' h' F' N' l1; (try k_lt l1); (try k_sweep))) | ((with_reducible show wpAny _ _ (compareOp .NotIn (Value.int _ _) (Value.ref _)) _ _ _); (refine notin_ints (by k_asm) (by exact List.Mem.head _) (by with_reducible assumption) ?_)) | ((with_reducible show wpAny _ _ (call (Value.builtin "len") [Value.ref _]) _ _ _); k_dflt (refine len_rows (by k_asm) (by repeat (first | with_reducible assumption | exact List.Mem.head _ | refine memS ?_)) (by with_reducible assumption) ?_); intro _ _) | ((with_reducible show wpAny _ _ (subscriptTail _ _ (Value.ref _) (Value.int _ _)) _ _ _); k_dflt (first | (refine item_rows (by k_asm) (by repeat (first | with_reducible assumption | refine memS ?_)) (by with_reducible assumption) (by omega) (by omega) (by with_reducible assumption) ?_ (by with_unfolding_all rfl); intro T9 F9 tb9 ta9 tn9 u0 u1 u2 u3 u4 u5 c9 c9' hT9 hF9) | (refine item_tupleT (News.isTup (by k_asm) (by repeat (first | with_reducible assumption | refine memS ?_))) (by decide) (by decide) (by rfl) (by rfl) ?_) | (refine item_ints (by k_asm) (by repeat (first | with_reducible assumption | refine memS ?_)) hxs (by omega) (by (first | omega | (simp only [List.size_toArray, List.length_cons, List.length_nil]; omega))) (by (simp only [List.size_toArray, List.length_cons, List.length_nil]; omega)) ?_ (by with_unfolding_all rfl); intro x9 tx9 hx9) | (refine my_item (by k_asm) (by repeat (first | with_reducible assumption | refine memS ?_)) (by decide) (by decide) (by with_unfolding_all rfl) ?_ (by with_unfolding_all rfl))); (try simp only [Int.reduceToNat, List.getElem_toArray, List.getElem_cons_zero, List.getElem_cons_succ])) | ((with_reducible show wpAny _ _ (binaryOp .LShift (Value.int _ _) (Value.int _ _)) _ _ _); (refine my_lshift (by omega) (by omega) ?_); intro v9 ev9) | ((with_reducible show wpAny _ _ (binaryOp .Pow (Value.int 2 _) (Value.int _ _)) _ _ _); (refine my_powV (by omega) (by omega) ?_); intro v9 pv9 gv9) | ((with_reducible show wpAny _ _ (binaryOp .Mult (Value.int _ _) (Value.int _ _)) _ _ _); (first | refine my_mulS (by omega) (by omega) ?_ | with_reducible refine mul_two (by with_reducible assumption) (by omega) (by with_reducible assumption) (by with_reducible assumption) ?_ | refine my_mul (by omega) ?_)) | ((with_reducible show wpAny _ _ (binaryOp .Mod (Value.int _ _) (Value.int _ _)) _ _ _); (refine my_mod (by omega) ?_); intro r9 er9 r09 r19))) | (k_unfold; (try dsimp only)) | (k_end; wrow_close) | walk1 | (dsimp only; walk1) | (leave1; (try dsimp only))))
    exact ⟨_, _, _, _, rfl, by k_asm, by k_asm, hoff, rfl, _, _, _, _, by repeat (first | exact nm_nil | refine nm_cons (by with_unfolding_all rfl) ?_), by rw [pile_be ha ok, ev9, ep], by rw [take_snoc ha, size_snoc, K.bgs i a ha]⟩
  case done1 =>
  rintro h' tk m₁ n₁ ⟨rfl, pl, z', tp', tz', Mx, ep, ez⟩ Fx Nx
  clear F3 N3
  with_reducible refine fr_fold Fx Mx ?_
  clear Fx
  intro mm Fx
  rw [hvs, show as.take 4 = as from List.take_of_length_le (by omega)] at ep ez
  (repeat' (first | ((with_reducible refine Blk.into ?_); (first | ((with_reducible show wpAny _ _ (call (Value.type "list") [Value.ref _]) _ _ _); (k_dflt (refine copy_any (by k_asm) (by k_asm) (by repeat (first | with_reducible assumption | exact List.Mem.head _ | refine memS ?_)) (by (simp only [List.size_toArray, List.length_cons, List.length_nil]; omega)) ?_)); intro Dq cq hq Fq Nq lq1; (try k_lt lq1); (try k_sweep)) | ((with_reducible show wpAny _ _ (binaryOp .Add (Value.ref _) (Value.ref _)) _ _ _); (k_dflt (refine add_lit (by k_asm) (by k_asm) (by repeat (first | with_reducible assumption | exact List.Mem.head _ | refine memS ?_)) (by repeat (first | with_reducible assumption | exact List.Mem.head _ | refine memS ?_)) (by (simp only [List.length_cons, List.length_nil]; omega)) ?_)); intro Dq hq Fq Nq lq1; (simp only [List.cons_append, List.nil_append] at Nq); (try k_lt lq1); (try k_sweep)) | ((with_reducible show wpAny _ _ (compareOp .NotEq (Value.bool _) (Value.bool _)) _ _ _); (with_reducible refine ne_self ?_)) | ((with_reducible show wpAny _ _ (compareOp .NotEq (Value.ref _) (Value.ref _)) _ _ _); (refine ne_rows (by k_asm) (by with_reducible assumption) (by with_reducible assumption) (by with_reducible assumption) (by ((try simp only [units_deeper, units_in1, ktrTop, cLine_is]); omega)) ?_)) | (with_reducible ((with_reducible show wpAny _ _ (subscriptTail _ (Expr.Slice none (some _) none _) (Value.ref _) (Value.ref _)) _ _ _); k_dflt (refine' kmk_slice (by k_asm) (by k_asm) (by kmk_list) (by kmk_part) (by kmk_part) ?_ (by with_unfolding_all rfl) (by kmk_pure) (by (show _ ≤ 16777216; omega))); intro D' h' F' N' l1; (try k_lt l1); (try k_sweep))) | ((with_reducible show wpAny _ _ (compareOp .NotIn (Value.int _ _) (Value.ref _)) _ _ _); (refine notin_ints (by k_asm) (by exact List.Mem.head _) (by with_reducible assumption) ?_)) | ((with_reducible show wpAny _ _ (call (Value.builtin "len") [Value.ref _]) _ _ _); k_dflt (refine len_rows (by k_asm) (by repeat (first | with_reducible assumption | exact List.Mem.head _ | refine memS ?_)) (by with_reducible assumption) ?_); intro _ _) | ((with_reducible show wpAny _ _ (subscriptTail _ _ (Value.ref _) (Value.int _ _)) _ _ _); k_dflt (first | (refine item_rows (by k_asm) (by repeat (first | with_reducible assumption | refine memS ?_)) (by with_reducible assumption) (by omega) (by omega) (by with_reducible assumption) ?_ (by with_unfolding_all rfl); intro T9 F9 tb9 ta9 tn9 u0 u1 u2 u3 u4 u5 c9 c9' hT9 hF9) | (refine item_tupleT (News.isTup (by k_asm) (by repeat (first | with_reducible assumption | refine memS ?_))) (by decide) (by decide) (by rfl) (by rfl) ?_) | (refine item_ints (by k_asm) (by repeat (first | with_reducible assumption | refine memS ?_)) hxs (by omega) (by (first | omega | (simp only [List.size_toArray, List.length_cons, List.length_nil]; omega))) (by (simp only [List.size_toArray, List.length_cons, List.length_nil]; omega)) ?_ (by with_unfolding_all rfl); intro x9 tx9 hx9) | (refine my_item (by k_asm) (by repeat (first | with_reducible assumption | refine memS ?_)) (by decide) (by decide) (by with_unfolding_all rfl) ?_ (by with_unfolding_all rfl))); (try simp only [Int.reduceToNat, List.getElem_toArray, List.getElem_cons_zero, List.getElem_cons_succ])) | ((with_reducible show wpAny _ _ (binaryOp .LShift (Value.int _ _) (Value.int _ _)) _ _ _); (refine my_lshift (by omega) (by omega) ?_); intro v9 ev9) | ((with_reducible show wpAny _ _ (binaryOp .Pow (Value.int 2 _) (Value.int _ _)) _ _ _); (refine my_powV (by omega) (by omega) ?_); intro v9 pv9 gv9) | ((with_reducible show wpAny _ _ (binaryOp .Mult (Value.int _ _) (Value.int _ _)) _ _ _); (first | refine my_mulS (by omega) (by omega) ?_ | with_reducible refine mul_two (by with_reducible assumption) (by omega) (by with_reducible assumption) (by with_reducible assumption) ?_ | refine my_mul (by omega) ?_)) | ((with_reducible show wpAny _ _ (binaryOp .Mod (Value.int _ _) (Value.int _ _)) _ _ _); (refine my_mod (by omega) ?_); intro r9 er9 r09 r19))) | (k_unfold; (try dsimp only)) | (k_end; wrow_close) | walk1 | (dsimp only; walk1) | (leave1; (try dsimp only))))
  refine Blk.into ?_
  rename Fr g L1 _ _ => FW
  rename News g L1 _ _ => NW
  with_unfolding_all refine' For_ground (a := 4 - 1) (c := -1) (n := 4) (fun g' => KtsTurn [L] g g' ∧ Below (ktrTop dp un gd cn cs L ad ccd cl []) base [envX cn cs L ad ccd cl] g' ∧ (hd.heap_39 w.params).In g' ∧ Top p loose mean mg mb g' ∧ KtsDicts [L] g') (fun (j : Nat) (_ : Heap) (m₁ : Str → Option Value) (n₁ : List (Addr × Obj)) => ∃ (tb : Array Value) (nz : List (Addr × Obj)) (pl z' : Int) (tp tz : Tok), n₁ = (139, tabObj tb) :: nz ∧ NmAre m₁ [("cells", .ref cc), ("rows", .ref rw), ("pile", .int pl tp), ("size", .int z' tz)] ∧ pl = beN (pileB (as.take (4 - j))) ∧ z' = sizeA (as.take (4 - j)) ∧ TabOk tb nz ∧ Off nz nx [139]) rfl ?h ?turn ?done ?hs ?hE
  case hs => intro _; rfl
  case hE => first | passes_own | with_unfolding_all passes_own
  case h =>
    (repeat' (first | ((with_reducible refine Blk.into ?_); (first | ((with_reducible show wpAny _ _ (call (Value.type "list") [Value.ref _]) _ _ _); (k_dflt (refine copy_any (by k_asm) (by k_asm) (by repeat (first | with_reducible assumption | exact List.Mem.head _ | refine memS ?_)) (by (simp only [List.size_toArray, List.length_cons, List.length_nil]; omega)) ?_)); intro Dq cq hq Fq Nq lq1; (try k_lt lq1); (try k_sweep)) | ((with_reducible show wpAny _ _ (binaryOp .Add (Value.ref _) (Value.ref _)) _ _ _); (k_dflt (refine add_lit (by k_asm) (by k_asm) (by repeat (first | with_reducible assumption | exact List.Mem.head _ | refine memS ?_)) (by repeat (first | with_reducible assumption | exact List.Mem.head _ | refine memS ?_)) (by (simp only [List.length_cons, List.length_nil]; omega)) ?_)); intro Dq hq Fq Nq lq1; (simp only [List.cons_append, List.nil_append] at Nq); (try k_lt lq1); (try k_sweep)) | ((with_reducible show wpAny _ _ (compareOp .NotEq (Value.bool _) (Value.bool _)) _ _ _); (with_reducible refine ne_self ?_)) | ((with_reducible show wpAny _ _ (compareOp .NotEq (Value.ref _) (Value.ref _)) _ _ _); (refine ne_rows (by k_asm) (by with_reducible assumption) (by with_reducible assumption) (by with_reducible assumption) (by ((try simp only [units_deeper, units_in1, ktrTop, cLine_is]); omega)) ?_)) | (with_reducible ((with_reducible show wpAny _ _ (subscriptTail _ (Expr.Slice none (some _) none _) (Value.ref _) (Value.ref _)) _ _ _); k_dflt (refine' kmk_slice (by k_asm) (by k_asm) (by kmk_list) (by kmk_part) (by kmk_part) ?_ (by with_unfolding_all rfl) (by kmk_pure) (by (show _ ≤ 16777216; omega))); intro D' h' F' N' l1; (try k_lt l1); (try k_sweep))) | ((with_reducible show wpAny _ _ (compareOp .NotIn (Value.int _ _) (Value.ref _)) _ _ _); (refine notin_ints (by k_asm) (by exact List.Mem.head _) (by with_reducible assumption) ?_)) | ((with_reducible show wpAny _ _ (call (Value.builtin "len") [Value.ref _]) _ _ _); k_dflt (refine len_rows (by k_asm) (by repeat (first | with_reducible assumption | exact List.Mem.head _ | refine memS ?_)) (by with_reducible assumption) ?_); intro _ _) | ((with_reducible show wpAny _ _ (subscriptTail _ _ (Value.ref _) (Value.int _ _)) _ _ _); k_dflt (first | (refine item_rows (by k_asm) (by repeat (first | with_reducible assumption | refine memS ?_)) (by with_reducible assumption) (by omega) (by omega) (by with_reducible assumption) ?_ (by with_unfolding_all rfl); intro T9 F9 tb9 ta9 tn9 u0 u1 u2 u3 u4 u5 c9 c9' hT9 hF9) | (refine item_tupleT (News.isTup (by k_asm) (by repeat (first | with_reducible assumption | refine memS ?_))) (by decide) (by decide) (by rfl) (by rfl) ?_) | (refine item_ints (by k_asm) (by repeat (first | with_reducible assumption | refine memS ?_)) hxs (by omega) (by (first | omega | (simp only [List.size_toArray, List.length_cons, List.length_nil]; omega))) (by (simp only [List.size_toArray, List.length_cons, List.length_nil]; omega)) ?_ (by with_unfolding_all rfl); intro x9 tx9 hx9) | (refine my_item (by k_asm) (by repeat (first | with_reducible assumption | refine memS ?_)) (by decide) (by decide) (by with_unfolding_all rfl) ?_ (by with_unfolding_all rfl))); (try simp only [Int.reduceToNat, List.getElem_toArray, List.getElem_cons_zero, List.getElem_cons_succ])) | ((with_reducible show wpAny _ _ (binaryOp .LShift (Value.int _ _) (Value.int _ _)) _ _ _); (refine my_lshift (by omega) (by omega) ?_); intro v9 ev9) | ((with_reducible show wpAny _ _ (binaryOp .Pow (Value.int 2 _) (Value.int _ _)) _ _ _); (refine my_powV (by omega) (by omega) ?_); intro v9 pv9 gv9) | ((with_reducible show wpAny _ _ (binaryOp .Mult (Value.int _ _) (Value.int _ _)) _ _ _); (first | refine my_mulS (by omega) (by omega) ?_ | with_reducible refine mul_two (by with_reducible assumption) (by omega) (by with_reducible assumption) (by with_reducible assumption) ?_ | refine my_mul (by omega) ?_)) | ((with_reducible show wpAny _ _ (binaryOp .Mod (Value.int _ _) (Value.int _ _)) _ _ _); (refine my_mod (by omega) ?_); intro r9 er9 r09 r19))) | (k_unfold; (try dsimp only)) | (k_end; wrow_close) | walk1 | (dsimp only; walk1) | (leave1; (try dsimp only))))
    refine Blk.into ?_
    rename IsRange _ _ _ _ _ _ _ _ => hR
    rename Fr g L1 _ _ => F4
    rename News g L1 _ _ => N4
    exact ⟨_, _, _, _, _, g, _, _, _, _, rfl, rfl, hR, by rfl, by rfl, ⟨KtsTurn.refl, B1, X1, T1, D1⟩, F4, N4, #[], nx, pl, z', _, _, rfl, by repeat (first | exact nm_nil | refine nm_cons (by with_unfolding_all rfl) ?_), by rw [ep, show as.take (4 - 0) = as from List.take_of_length_le (by omega)], by rw [ez, show as.take (4 - 0) = as from List.take_of_length_le (by omega)], .inl rfl, fun _ h => h, S.off⟩
  case done =>
    rintro g' h' tk m₁ n₁ ⟨T2, B2, X2, P2, D2⟩ ⟨tb, nz, pl, z', tp, tz, rfl, Mx, ep, ez, htb, S4⟩ Fx Nx
    clear FW NW
    with_reducible refine fr_fold Fx Mx ?_
    clear Fx
    intro mm Fx
    have e0 : pl = 0 := ep
    subst e0
    (repeat' (first | ((with_reducible refine Blk.into ?_); (first | ((with_reducible show wpAny _ _ (call (Value.type "list") [Value.ref _]) _ _ _); (k_dflt (refine copy_any (by k_asm) (by k_asm) (by repeat (first | with_reducible assumption | exact List.Mem.head _ | refine memS ?_)) (by (simp only [List.size_toArray, List.length_cons, List.length_nil]; omega)) ?_)); intro Dq cq hq Fq Nq lq1; (try k_lt lq1); (try k_sweep)) | ((with_reducible show wpAny _ _ (binaryOp .Add (Value.ref _) (Value.ref _)) _ _ _); (k_dflt (refine add_lit (by k_asm) (by k_asm) (by repeat (first | with_reducible assumption | exact List.Mem.head _ | refine memS ?_)) (by repeat (first | with_reducible assumption | exact List.Mem.head _ | refine memS ?_)) (by (simp only [List.length_cons, List.length_nil]; omega)) ?_)); intro Dq hq Fq Nq lq1; (simp only [List.cons_append, List.nil_append] at Nq); (try k_lt lq1); (try k_sweep)) | ((with_reducible show wpAny _ _ (compareOp .NotEq (Value.bool _) (Value.bool _)) _ _ _); (with_reducible refine ne_self ?_)) | ((with_reducible show wpAny _ _ (compareOp .NotEq (Value.ref _) (Value.ref _)) _ _ _); (refine ne_rows (by k_asm) (by with_reducible assumption) (by with_reducible assumption) (by with_reducible assumption) (by ((try simp only [units_deeper, units_in1, ktrTop, cLine_is]); omega)) ?_)) | (with_reducible ((with_reducible show wpAny _ _ (subscriptTail _ (Expr.Slice none (some _) none _) (Value.ref _) (Value.ref _)) _ _ _); k_dflt (refine' kmk_slice (by k_asm) (by k_asm) (by kmk_list) (by kmk_part) (by kmk_part) ?_ (by with_unfolding_all rfl) (by kmk_pure) (by (show _ ≤ 16777216; omega))); intro D' h' F' N' l1; (try k_lt l1); (try k_sweep))) | ((with_reducible show wpAny _ _ (compareOp .NotIn (Value.int _ _) (Value.ref _)) _ _ _); (refine notin_ints (by k_asm) (by exact List.Mem.head _) (by with_reducible assumption) ?_)) | ((with_reducible show wpAny _ _ (call (Value.builtin "len") [Value.ref _]) _ _ _); k_dflt (refine len_rows (by k_asm) (by repeat (first | with_reducible assumption | exact List.Mem.head _ | refine memS ?_)) (by with_reducible assumption) ?_); intro _ _) | ((with_reducible show wpAny _ _ (subscriptTail _ _ (Value.ref _) (Value.int _ _)) _ _ _); k_dflt (first | (refine item_rows (by k_asm) (by repeat (first | with_reducible assumption | refine memS ?_)) (by with_reducible assumption) (by omega) (by omega) (by with_reducible assumption) ?_ (by with_unfolding_all rfl); intro T9 F9 tb9 ta9 tn9 u0 u1 u2 u3 u4 u5 c9 c9' hT9 hF9) | (refine item_tupleT (News.isTup (by k_asm) (by repeat (first | with_reducible assumption | refine memS ?_))) (by decide) (by decide) (by rfl) (by rfl) ?_) | (refine item_ints (by k_asm) (by repeat (first | with_reducible assumption | refine memS ?_)) hxs (by omega) (by (first | omega | (simp only [List.size_toArray, List.length_cons, List.length_nil]; omega))) (by (simp only [List.size_toArray, List.length_cons, List.length_nil]; omega)) ?_ (by with_unfolding_all rfl); intro x9 tx9 hx9) | (refine my_item (by k_asm) (by repeat (first | with_reducible assumption | refine memS ?_)) (by decide) (by decide) (by with_unfolding_all rfl) ?_ (by with_unfolding_all rfl))); (try simp only [Int.reduceToNat, List.getElem_toArray, List.getElem_cons_zero, List.getElem_cons_succ])) | ((with_reducible show wpAny _ _ (binaryOp .LShift (Value.int _ _) (Value.int _ _)) _ _ _); (refine my_lshift (by omega) (by omega) ?_); intro v9 ev9) | ((with_reducible show wpAny _ _ (binaryOp .Pow (Value.int 2 _) (Value.int _ _)) _ _ _); (refine my_powV (by omega) (by omega) ?_); intro v9 pv9 gv9) | ((with_reducible show wpAny _ _ (binaryOp .Mult (Value.int _ _) (Value.int _ _)) _ _ _); (first | refine my_mulS (by omega) (by omega) ?_ | with_reducible refine mul_two (by with_reducible assumption) (by omega) (by with_reducible assumption) (by with_reducible assumption) ?_ | refine my_mul (by omega) ?_)) | ((with_reducible show wpAny _ _ (binaryOp .Mod (Value.int _ _) (Value.int _ _)) _ _ _); (refine my_mod (by omega) ?_); intro r9 er9 r09 r19))) | (k_unfold; (try dsimp only)) | (k_end; wrow_close) | walk1 | (dsimp only; walk1) | (leave1; (try dsimp only))))
    refine Blk.into ?_
    rename Fr _ _ _ _ => F9
    rename News _ _ _ _ => N9
    exact ⟨g', L1, _, _, T2, F9, N9, fun Fz Nz => hret _ _ tb nz Fz Nz⟩
  case turn =>
    rintro I j t g₁ m₁ n₁ h₁ tk₁ it hj ⟨T2, B2, X2, P2, D2⟩ ⟨tb, nz, pl, z', tp, tz, rfl, Mx, ep, ez, htb, S4⟩ hoff Fx Nx
    clear FW NW
    with_reducible refine fr_fold Fx Mx ?_
    clear Fx
    intro mm Fx
    obtain ⟨i, hi, hij⟩ : ∃ i : Nat, (4 - 1 + (j : Int) * -1 : Int) = (i : Int) ∧ 4 - j = i + 1 := ⟨3 - j, by omega, by omega⟩
    rw [hi]
    rw [hij] at ep ez
    have ha : as[i]? = some as[i] := List.getElem?_eq_getElem (by omega)
    generalize as[i] = a at ha
    have ok := K.ok a (List.mem_of_getElem? ha)
    have SC := scene_of K ha
    have l0 := ok.l0
    have l1 := ok.l1
    have bg0 := SC.bg0
    have big := SC.big
    have ez2 : z' = a.bg + a.ah + 98 := by rw [ez, take_snoc ha, size_snoc, K.bgs i a ha]
    have ha' : as[((i : Nat) : Int).toNat]? = some a := ha
    have R4 := rowsAre_mono S4.sub R
    have hrm4 := S4.sub _ hrm
    have hn4 := off_one S4 (a := 139) (by simp)
    have hI1 : @Ne Nat 139 I := hoff _ (.head _)
    have hIn : ∀ q ∈ nz, q.1 ≠ I := fun q hq => hoff q (.tail _ hq)
    (repeat' (first | ((with_reducible refine Blk.into ?_); (first | ((with_reducible show wpAny _ _ (call (Value.type "list") [Value.ref _]) _ _ _); (k_dflt (refine copy_any (by k_asm) (by k_asm) (by repeat (first | with_reducible assumption | exact List.Mem.head _ | refine memS ?_)) (by (simp only [List.size_toArray, List.length_cons, List.length_nil]; omega)) ?_)); intro Dq cq hq Fq Nq lq1; (try k_lt lq1); (try k_sweep)) | ((with_reducible show wpAny _ _ (binaryOp .Add (Value.ref _) (Value.ref _)) _ _ _); (k_dflt (refine add_lit (by k_asm) (by k_asm) (by repeat (first | with_reducible assumption | exact List.Mem.head _ | refine memS ?_)) (by repeat (first | with_reducible assumption | exact List.Mem.head _ | refine memS ?_)) (by (simp only [List.length_cons, List.length_nil]; omega)) ?_)); intro Dq hq Fq Nq lq1; (simp only [List.cons_append, List.nil_append] at Nq); (try k_lt lq1); (try k_sweep)) | ((with_reducible show wpAny _ _ (compareOp .NotEq (Value.bool _) (Value.bool _)) _ _ _); (with_reducible refine ne_self ?_)) | ((with_reducible show wpAny _ _ (compareOp .NotEq (Value.ref _) (Value.ref _)) _ _ _); (refine ne_rows (by k_asm) (by with_reducible assumption) (by with_reducible assumption) (by with_reducible assumption) (by ((try simp only [units_deeper, units_in1, ktrTop, cLine_is]); omega)) ?_)) | (with_reducible ((with_reducible show wpAny _ _ (subscriptTail _ (Expr.Slice none (some _) none _) (Value.ref _) (Value.ref _)) _ _ _); k_dflt (refine' kmk_slice (by k_asm) (by k_asm) (by kmk_list) (by kmk_part) (by kmk_part) ?_ (by with_unfolding_all rfl) (by kmk_pure) (by (show _ ≤ 16777216; omega))); intro D' h' F' N' l1; (try k_lt l1); (try k_sweep))) | ((with_reducible show wpAny _ _ (compareOp .NotIn (Value.int _ _) (Value.ref _)) _ _ _); (refine notin_ints (by k_asm) (by exact List.Mem.head _) (by with_reducible assumption) ?_)) | ((with_reducible show wpAny _ _ (call (Value.builtin "len") [Value.ref _]) _ _ _); k_dflt (refine len_rows (by k_asm) (by repeat (first | with_reducible assumption | exact List.Mem.head _ | refine memS ?_)) (by with_reducible assumption) ?_); intro _ _) | ((with_reducible show wpAny _ _ (subscriptTail _ _ (Value.ref _) (Value.int _ _)) _ _ _); k_dflt (first | (refine item_rows (by k_asm) (by repeat (first | with_reducible assumption | refine memS ?_)) (by with_reducible assumption) (by omega) (by omega) (by with_reducible assumption) ?_ (by with_unfolding_all rfl); intro T9 F9 tb9 ta9 tn9 u0 u1 u2 u3 u4 u5 c9 c9' hT9 hF9) | (refine item_tupleT (News.isTup (by k_asm) (by repeat (first | with_reducible assumption | refine memS ?_))) (by decide) (by decide) (by rfl) (by rfl) ?_) | (refine item_ints (by k_asm) (by repeat (first | with_reducible assumption | refine memS ?_)) hxs (by omega) (by (first | omega | (simp only [List.size_toArray, List.length_cons, List.length_nil]; omega))) (by (simp only [List.size_toArray, List.length_cons, List.length_nil]; omega)) ?_ (by with_unfolding_all rfl); intro x9 tx9 hx9) | (refine my_item (by k_asm) (by repeat (first | with_reducible assumption | refine memS ?_)) (by decide) (by decide) (by with_unfolding_all rfl) ?_ (by with_unfolding_all rfl))); (try simp only [Int.reduceToNat, List.getElem_toArray, List.getElem_cons_zero, List.getElem_cons_succ])) | ((with_reducible show wpAny _ _ (binaryOp .LShift (Value.int _ _) (Value.int _ _)) _ _ _); (refine my_lshift (by omega) (by omega) ?_); intro v9 ev9) | ((with_reducible show wpAny _ _ (binaryOp .Pow (Value.int 2 _) (Value.int _ _)) _ _ _); (refine my_powV (by omega) (by omega) ?_); intro v9 pv9 gv9) | ((with_reducible show wpAny _ _ (binaryOp .Mult (Value.int _ _) (Value.int _ _)) _ _ _); (first | refine my_mulS (by omega) (by omega) ?_ | with_reducible refine mul_two (by with_reducible assumption) (by omega) (by with_reducible assumption) (by with_reducible assumption) ?_ | refine my_mul (by omega) ?_)) | ((with_reducible show wpAny _ _ (binaryOp .Mod (Value.int _ _) (Value.int _ _)) _ _ _); (refine my_mod (by omega) ?_); intro r9 er9 r09 r19))) | (k_unfold; (try dsimp only)) | (k_end; wrow_close) | walk1 | (dsimp only; walk1) | (leave1; (try dsimp only))))
    refine Blk.into ?_
    let Jc : Heap → Prop := fun h' => ∀ G : Prop, (∀ (m' : Str → Option Value) (F : Addr) (u0 u1 u2 u3 u4 u5 tb' ta tn ti tp tz : Tok) (cf : Nat) (ny : List (Addr × Obj)), Fr g₁ L1 h' m' → News g₁ L1 h' ((I, it) :: (139, tabObj tb) :: ny) → NmAre m' [("cells", .ref cc), ("rows", .ref rw), ("pile", .int pl tp), ("size", .int z' tz), ("i", .int i ti), ("begin", .int a.bg tb'), ("ahead", .int a.ah ta), ("facts", .ref F), ("number", .int (beN a.bytes) tn), ("opens", .bool (opensA as i a))] → Off ny nz [I, 139] → (F, ({ cls := .type "list", data := .seq #[.int a.f0 u0, .int a.f1 u1, .int a.f2 u2, .int a.f3 u3, .int a.ln u4, .int (a.ah - a.ln) u5] cf } : Obj)) ∈ ny → G) → G
    with_reducible refine Jn.ckpt 2 Jc ?_ ?_
    · dsimp only [List.take]
      k_fold
      (repeat' (first | ((with_reducible refine Blk.into ?_); (first | ((with_reducible show wpAny _ _ (call (Value.type "list") [Value.ref _]) _ _ _); (k_dflt (refine copy_any (by k_asm) (by k_asm) (by repeat (first | with_reducible assumption | exact List.Mem.head _ | refine memS ?_)) (by (simp only [List.size_toArray, List.length_cons, List.length_nil]; omega)) ?_)); intro Dq cq hq Fq Nq lq1; (try k_lt lq1); (try k_sweep)) | ((with_reducible show wpAny _ _ (binaryOp .Add (Value.ref _) (Value.ref _)) _ _ _); (k_dflt (refine add_lit (by k_asm) (by k_asm) (by repeat (first | with_reducible assumption | exact List.Mem.head _ | refine memS ?_)) (by repeat (first | with_reducible assumption | exact List.Mem.head _ | refine memS ?_)) (by (simp only [List.length_cons, List.length_nil]; omega)) ?_)); intro Dq hq Fq Nq lq1; (simp only [List.cons_append, List.nil_append] at Nq); (try k_lt lq1); (try k_sweep)) | ((with_reducible show wpAny _ _ (compareOp .NotEq (Value.bool _) (Value.bool _)) _ _ _); (with_reducible refine ne_self ?_)) | ((with_reducible show wpAny _ _ (compareOp .NotEq (Value.ref _) (Value.ref _)) _ _ _); (refine ne_rows (by k_asm) (by with_reducible assumption) (by with_reducible assumption) (by with_reducible assumption) (by ((try simp only [units_deeper, units_in1, ktrTop, cLine_is]); omega)) ?_)) | (with_reducible ((with_reducible show wpAny _ _ (subscriptTail _ (Expr.Slice none (some _) none _) (Value.ref _) (Value.ref _)) _ _ _); k_dflt (refine' kmk_slice (by k_asm) (by k_asm) (by kmk_list) (by kmk_part) (by kmk_part) ?_ (by with_unfolding_all rfl) (by kmk_pure) (by (show _ ≤ 16777216; omega))); intro D' h' F' N' l1; (try k_lt l1); (try k_sweep))) | ((with_reducible show wpAny _ _ (compareOp .NotIn (Value.int _ _) (Value.ref _)) _ _ _); (refine notin_ints (by k_asm) (by exact List.Mem.head _) (by with_reducible assumption) ?_)) | ((with_reducible show wpAny _ _ (call (Value.builtin "len") [Value.ref _]) _ _ _); k_dflt (refine len_rows (by k_asm) (by repeat (first | with_reducible assumption | exact List.Mem.head _ | refine memS ?_)) (by with_reducible assumption) ?_); intro _ _) | ((with_reducible show wpAny _ _ (subscriptTail _ _ (Value.ref _) (Value.int _ _)) _ _ _); k_dflt (first | (refine item_rows (by k_asm) (by repeat (first | with_reducible assumption | refine memS ?_)) (by with_reducible assumption) (by omega) (by omega) (by with_reducible assumption) ?_ (by with_unfolding_all rfl); intro T9 F9 tb9 ta9 tn9 u0 u1 u2 u3 u4 u5 c9 c9' hT9 hF9) | (refine item_tupleT (News.isTup (by k_asm) (by repeat (first | with_reducible assumption | refine memS ?_))) (by decide) (by decide) (by rfl) (by rfl) ?_) | (refine item_ints (by k_asm) (by repeat (first | with_reducible assumption | refine memS ?_)) hxs (by omega) (by (first | omega | (simp only [List.size_toArray, List.length_cons, List.length_nil]; omega))) (by (simp only [List.size_toArray, List.length_cons, List.length_nil]; omega)) ?_ (by with_unfolding_all rfl); intro x9 tx9 hx9) | (refine my_item (by k_asm) (by repeat (first | with_reducible assumption | refine memS ?_)) (by decide) (by decide) (by with_unfolding_all rfl) ?_ (by with_unfolding_all rfl))); (try simp only [Int.reduceToNat, List.getElem_toArray, List.getElem_cons_zero, List.getElem_cons_succ])) | ((with_reducible show wpAny _ _ (binaryOp .LShift (Value.int _ _) (Value.int _ _)) _ _ _); (refine my_lshift (by omega) (by omega) ?_); intro v9 ev9) | ((with_reducible show wpAny _ _ (binaryOp .Pow (Value.int 2 _) (Value.int _ _)) _ _ _); (refine my_powV (by omega) (by omega) ?_); intro v9 pv9 gv9) | ((with_reducible show wpAny _ _ (binaryOp .Mult (Value.int _ _) (Value.int _ _)) _ _ _); (first | refine my_mulS (by omega) (by omega) ?_ | with_reducible refine mul_two (by with_reducible assumption) (by omega) (by with_reducible assumption) (by with_reducible assumption) ?_ | refine my_mul (by omega) ?_)) | ((with_reducible show wpAny _ _ (binaryOp .Mod (Value.int _ _) (Value.int _ _)) _ _ _); (refine my_mod (by omega) ?_); intro r9 er9 r09 r19))) | (k_unfold; (try dsimp only)) | (k_end; wrow_close) | walk1 | (dsimp only; walk1) | (leave1; (try dsimp only))))
      refine Blk.into ?_
      k_dflt (refine LCg.ListComp_U (F₀ := by k_asm) (by rfl) (by decide) (by rfl) (by decide) (by rfl) ?_)
      (repeat' (first | ((with_reducible refine Blk.into ?_); (first | ((with_reducible show wpAny _ _ (call (Value.type "list") [Value.ref _]) _ _ _); (k_dflt (refine copy_any (by k_asm) (by k_asm) (by repeat (first | with_reducible assumption | exact List.Mem.head _ | refine memS ?_)) (by (simp only [List.size_toArray, List.length_cons, List.length_nil]; omega)) ?_)); intro Dq cq hq Fq Nq lq1; (try k_lt lq1); (try k_sweep)) | ((with_reducible show wpAny _ _ (binaryOp .Add (Value.ref _) (Value.ref _)) _ _ _); (k_dflt (refine add_lit (by k_asm) (by k_asm) (by repeat (first | with_reducible assumption | exact List.Mem.head _ | refine memS ?_)) (by repeat (first | with_reducible assumption | exact List.Mem.head _ | refine memS ?_)) (by (simp only [List.length_cons, List.length_nil]; omega)) ?_)); intro Dq hq Fq Nq lq1; (simp only [List.cons_append, List.nil_append] at Nq); (try k_lt lq1); (try k_sweep)) | ((with_reducible show wpAny _ _ (compareOp .NotEq (Value.bool _) (Value.bool _)) _ _ _); (with_reducible refine ne_self ?_)) | ((with_reducible show wpAny _ _ (compareOp .NotEq (Value.ref _) (Value.ref _)) _ _ _); (refine ne_rows (by k_asm) (by with_reducible assumption) (by with_reducible assumption) (by with_reducible assumption) (by ((try simp only [units_deeper, units_in1, ktrTop, cLine_is]); omega)) ?_)) | (with_reducible ((with_reducible show wpAny _ _ (subscriptTail _ (Expr.Slice none (some _) none _) (Value.ref _) (Value.ref _)) _ _ _); k_dflt (refine' kmk_slice (by k_asm) (by k_asm) (by kmk_list) (by kmk_part) (by kmk_part) ?_ (by with_unfolding_all rfl) (by kmk_pure) (by (show _ ≤ 16777216; omega))); intro D' h' F' N' l1; (try k_lt l1); (try k_sweep))) | ((with_reducible show wpAny _ _ (compareOp .NotIn (Value.int _ _) (Value.ref _)) _ _ _); (refine notin_ints (by k_asm) (by exact List.Mem.head _) (by with_reducible assumption) ?_)) | ((with_reducible show wpAny _ _ (call (Value.builtin "len") [Value.ref _]) _ _ _); k_dflt (refine len_rows (by k_asm) (by repeat (first | with_reducible assumption | exact List.Mem.head _ | refine memS ?_)) (by with_reducible assumption) ?_); intro _ _) | ((with_reducible show wpAny _ _ (subscriptTail _ _ (Value.ref _) (Value.int _ _)) _ _ _); k_dflt (first | (refine item_rows (by k_asm) (by repeat (first | with_reducible assumption | refine memS ?_)) (by with_reducible assumption) (by omega) (by omega) (by with_reducible assumption) ?_ (by with_unfolding_all rfl); intro T9 F9 tb9 ta9 tn9 u0 u1 u2 u3 u4 u5 c9 c9' hT9 hF9) | (refine item_tupleT (News.isTup (by k_asm) (by repeat (first | with_reducible assumption | refine memS ?_))) (by decide) (by decide) (by rfl) (by rfl) ?_) | (refine item_ints (by k_asm) (by repeat (first | with_reducible assumption | refine memS ?_)) hxs (by omega) (by (first | omega | (simp only [List.size_toArray, List.length_cons, List.length_nil]; omega))) (by (simp only [List.size_toArray, List.length_cons, List.length_nil]; omega)) ?_ (by with_unfolding_all rfl); intro x9 tx9 hx9) | (refine my_item (by k_asm) (by repeat (first | with_reducible assumption | refine memS ?_)) (by decide) (by decide) (by with_unfolding_all rfl) ?_ (by with_unfolding_all rfl))); (try simp only [Int.reduceToNat, List.getElem_toArray, List.getElem_cons_zero, List.getElem_cons_succ])) | ((with_reducible show wpAny _ _ (binaryOp .LShift (Value.int _ _) (Value.int _ _)) _ _ _); (refine my_lshift (by omega) (by omega) ?_); intro v9 ev9) | ((with_reducible show wpAny _ _ (binaryOp .Pow (Value.int 2 _) (Value.int _ _)) _ _ _); (refine my_powV (by omega) (by omega) ?_); intro v9 pv9 gv9) | ((with_reducible show wpAny _ _ (binaryOp .Mult (Value.int _ _) (Value.int _ _)) _ _ _); (first | refine my_mulS (by omega) (by omega) ?_ | with_reducible refine mul_two (by with_reducible assumption) (by omega) (by with_reducible assumption) (by with_reducible assumption) ?_ | refine my_mul (by omega) ?_)) | ((with_reducible show wpAny _ _ (binaryOp .Mod (Value.int _ _) (Value.int _ _)) _ _ _); (refine my_mod (by omega) ?_); intro r9 er9 r09 r19))) | (k_unfold; (try dsimp only)) | (k_end; wrow_close) | walk1 | (dsimp only; walk1) | (leave1; (try dsimp only))))
      refine Blk.into ?_
      have hsz : (slicePick vs none (some (i : Int)) none).size = i := slice_size (by omega)
      refine LCg.CompSrc.ledger (by rfl) (by k_asm) (by k_asm) (List.Mem.head _) (by rw [hsz, sizeLine_eq]; omega) ?_
      intro g9
      refine Cp.plain_all (fun i2 ys => IntsAre ys (((as.take i).take i2).map fun b => b.bg + b.ah)) ?_ ?_ _ 0 [] (Nat.add_zero _) .nil
      · intro i2 ys hi2 hj2 v I2 oI C oC D m₂ h tk E' hv hC hx F' N' off' ne'
        have hb : as[i2]? = some as[i2] := List.getElem?_eq_getElem (by omega)
        generalize as[i2] = b at hb
        obtain ⟨v', e1, T', F', tb, ta, tn, t0, t1, t2, t3, t4, t5, c1, c1', rfl, gT, gF, hT, hF⟩ := R4.at_ i2 b hb
        have ev : v = .ref T' := by
          have := slice_at hv
          rw [← Array.getElem?_toList, e1] at this
          exact (Option.some.inj this).symm
        subst ev
        (repeat' (first | ((with_reducible refine Blk.into ?_); (first | ((with_reducible show wpAny _ _ (call (Value.type "list") [Value.ref _]) _ _ _); (k_dflt (refine copy_any (by k_asm) (by k_asm) (by repeat (first | with_reducible assumption | exact List.Mem.head _ | refine memS ?_)) (by (simp only [List.size_toArray, List.length_cons, List.length_nil]; omega)) ?_)); intro Dq cq hq Fq Nq lq1; (try k_lt lq1); (try k_sweep)) | ((with_reducible show wpAny _ _ (binaryOp .Add (Value.ref _) (Value.ref _)) _ _ _); (k_dflt (refine add_lit (by k_asm) (by k_asm) (by repeat (first | with_reducible assumption | exact List.Mem.head _ | refine memS ?_)) (by repeat (first | with_reducible assumption | exact List.Mem.head _ | refine memS ?_)) (by (simp only [List.length_cons, List.length_nil]; omega)) ?_)); intro Dq hq Fq Nq lq1; (simp only [List.cons_append, List.nil_append] at Nq); (try k_lt lq1); (try k_sweep)) | ((with_reducible show wpAny _ _ (compareOp .NotEq (Value.bool _) (Value.bool _)) _ _ _); (with_reducible refine ne_self ?_)) | ((with_reducible show wpAny _ _ (compareOp .NotEq (Value.ref _) (Value.ref _)) _ _ _); (refine ne_rows (by k_asm) (by with_reducible assumption) (by with_reducible assumption) (by with_reducible assumption) (by ((try simp only [units_deeper, units_in1, ktrTop, cLine_is]); omega)) ?_)) | (with_reducible ((with_reducible show wpAny _ _ (subscriptTail _ (Expr.Slice none (some _) none _) (Value.ref _) (Value.ref _)) _ _ _); k_dflt (refine' kmk_slice (by k_asm) (by k_asm) (by kmk_list) (by kmk_part) (by kmk_part) ?_ (by with_unfolding_all rfl) (by kmk_pure) (by (show _ ≤ 16777216; omega))); intro D' h' F' N' l1; (try k_lt l1); (try k_sweep))) | ((with_reducible show wpAny _ _ (compareOp .NotIn (Value.int _ _) (Value.ref _)) _ _ _); (refine notin_ints (by k_asm) (by exact List.Mem.head _) (by with_reducible assumption) ?_)) | ((with_reducible show wpAny _ _ (call (Value.builtin "len") [Value.ref _]) _ _ _); k_dflt (refine len_rows (by k_asm) (by repeat (first | with_reducible assumption | exact List.Mem.head _ | refine memS ?_)) (by with_reducible assumption) ?_); intro _ _) | ((with_reducible show wpAny _ _ (subscriptTail _ _ (Value.ref _) (Value.int _ _)) _ _ _); k_dflt (first | (refine item_rows (by k_asm) (by repeat (first | with_reducible assumption | refine memS ?_)) (by with_reducible assumption) (by omega) (by omega) (by with_reducible assumption) ?_ (by with_unfolding_all rfl); intro T9 F9 tb9 ta9 tn9 u0 u1 u2 u3 u4 u5 c9 c9' hT9 hF9) | (refine item_tupleT (News.isTup (by k_asm) (by repeat (first | with_reducible assumption | refine memS ?_))) (by decide) (by decide) (by rfl) (by rfl) ?_) | (refine item_ints (by k_asm) (by repeat (first | with_reducible assumption | refine memS ?_)) hxs (by omega) (by (first | omega | (simp only [List.size_toArray, List.length_cons, List.length_nil]; omega))) (by (simp only [List.size_toArray, List.length_cons, List.length_nil]; omega)) ?_ (by with_unfolding_all rfl); intro x9 tx9 hx9) | (refine my_item (by k_asm) (by repeat (first | with_reducible assumption | refine memS ?_)) (by decide) (by decide) (by with_unfolding_all rfl) ?_ (by with_unfolding_all rfl))); (try simp only [Int.reduceToNat, List.getElem_toArray, List.getElem_cons_zero, List.getElem_cons_succ])) | ((with_reducible show wpAny _ _ (binaryOp .LShift (Value.int _ _) (Value.int _ _)) _ _ _); (refine my_lshift (by omega) (by omega) ?_); intro v9 ev9) | ((with_reducible show wpAny _ _ (binaryOp .Pow (Value.int 2 _) (Value.int _ _)) _ _ _); (refine my_powV (by omega) (by omega) ?_); intro v9 pv9 gv9) | ((with_reducible show wpAny _ _ (binaryOp .Mult (Value.int _ _) (Value.int _ _)) _ _ _); (first | refine my_mulS (by omega) (by omega) ?_ | with_reducible refine mul_two (by with_reducible assumption) (by omega) (by with_reducible assumption) (by with_reducible assumption) ?_ | refine my_mul (by omega) ?_)) | ((with_reducible show wpAny _ _ (binaryOp .Mod (Value.int _ _) (Value.int _ _)) _ _ _); (refine my_mod (by omega) ?_); intro r9 er9 r09 r19))) | (k_unfold; (try dsimp only)) | (k_end; wrow_close) | walk1 | (dsimp only; walk1) | (leave1; (try dsimp only))))
        exact LCg.CompEnd.intro (by k_asm) (by k_asm) _ (fun p hp => hp) off' (.inr ⟨_, by repeat (first | with_reducible assumption | exact List.Mem.head _ | refine memS ?_), rfl, _, rfl⟩) ⟨rfl, ints_arc hj2 (by rw [List.getElem?_take_of_lt (by omega)]; exact hb) rfl⟩
      · intro ys hj2
        rw [hsz, List.take_take, Nat.min_self] at hj2
        unfold LCg.FinE
        intro D h' tk' F' N' o1'
        simp only [LCg.Off1] at o1'
        (repeat' (first | ((with_reducible refine Blk.into ?_); (first | ((with_reducible show wpAny _ _ (call (Value.type "list") [Value.ref _]) _ _ _); (k_dflt (refine copy_any (by k_asm) (by k_asm) (by repeat (first | with_reducible assumption | exact List.Mem.head _ | refine memS ?_)) (by (simp only [List.size_toArray, List.length_cons, List.length_nil]; omega)) ?_)); intro Dq cq hq Fq Nq lq1; (try k_lt lq1); (try k_sweep)) | ((with_reducible show wpAny _ _ (binaryOp .Add (Value.ref _) (Value.ref _)) _ _ _); (k_dflt (refine add_lit (by k_asm) (by k_asm) (by repeat (first | with_reducible assumption | exact List.Mem.head _ | refine memS ?_)) (by repeat (first | with_reducible assumption | exact List.Mem.head _ | refine memS ?_)) (by (simp only [List.length_cons, List.length_nil]; omega)) ?_)); intro Dq hq Fq Nq lq1; (simp only [List.cons_append, List.nil_append] at Nq); (try k_lt lq1); (try k_sweep)) | ((with_reducible show wpAny _ _ (compareOp .NotEq (Value.bool _) (Value.bool _)) _ _ _); (with_reducible refine ne_self ?_)) | ((with_reducible show wpAny _ _ (compareOp .NotEq (Value.ref _) (Value.ref _)) _ _ _); (refine ne_rows (by k_asm) (by with_reducible assumption) (by with_reducible assumption) (by with_reducible assumption) (by ((try simp only [units_deeper, units_in1, ktrTop, cLine_is]); omega)) ?_)) | (with_reducible ((with_reducible show wpAny _ _ (subscriptTail _ (Expr.Slice none (some _) none _) (Value.ref _) (Value.ref _)) _ _ _); k_dflt (refine' kmk_slice (by k_asm) (by k_asm) (by kmk_list) (by kmk_part) (by kmk_part) ?_ (by with_unfolding_all rfl) (by kmk_pure) (by (show _ ≤ 16777216; omega))); intro D' h' F' N' l1; (try k_lt l1); (try k_sweep))) | ((with_reducible show wpAny _ _ (compareOp .NotIn (Value.int _ _) (Value.ref _)) _ _ _); (refine notin_ints (by k_asm) (by exact List.Mem.head _) (by with_reducible assumption) ?_)) | ((with_reducible show wpAny _ _ (call (Value.builtin "len") [Value.ref _]) _ _ _); k_dflt (refine len_rows (by k_asm) (by repeat (first | with_reducible assumption | exact List.Mem.head _ | refine memS ?_)) (by with_reducible assumption) ?_); intro _ _) | ((with_reducible show wpAny _ _ (subscriptTail _ _ (Value.ref _) (Value.int _ _)) _ _ _); k_dflt (first | (refine item_rows (by k_asm) (by repeat (first | with_reducible assumption | refine memS ?_)) (by with_reducible assumption) (by omega) (by omega) (by with_reducible assumption) ?_ (by with_unfolding_all rfl); intro T9 F9 tb9 ta9 tn9 u0 u1 u2 u3 u4 u5 c9 c9' hT9 hF9) | (refine item_tupleT (News.isTup (by k_asm) (by repeat (first | with_reducible assumption | refine memS ?_))) (by decide) (by decide) (by rfl) (by rfl) ?_) | (refine item_ints (by k_asm) (by repeat (first | with_reducible assumption | refine memS ?_)) hxs (by omega) (by (first | omega | (simp only [List.size_toArray, List.length_cons, List.length_nil]; omega))) (by (simp only [List.size_toArray, List.length_cons, List.length_nil]; omega)) ?_ (by with_unfolding_all rfl); intro x9 tx9 hx9) | (refine my_item (by k_asm) (by repeat (first | with_reducible assumption | refine memS ?_)) (by decide) (by decide) (by with_unfolding_all rfl) ?_ (by with_unfolding_all rfl))); (try simp only [Int.reduceToNat, List.getElem_toArray, List.getElem_cons_zero, List.getElem_cons_succ])) | ((with_reducible show wpAny _ _ (binaryOp .LShift (Value.int _ _) (Value.int _ _)) _ _ _); (refine my_lshift (by omega) (by omega) ?_); intro v9 ev9) | ((with_reducible show wpAny _ _ (binaryOp .Pow (Value.int 2 _) (Value.int _ _)) _ _ _); (refine my_powV (by omega) (by omega) ?_); intro v9 pv9 gv9) | ((with_reducible show wpAny _ _ (binaryOp .Mult (Value.int _ _) (Value.int _ _)) _ _ _); (first | refine my_mulS (by omega) (by omega) ?_ | with_reducible refine mul_two (by with_reducible assumption) (by omega) (by with_reducible assumption) (by with_reducible assumption) ?_ | refine my_mul (by omega) ?_)) | ((with_reducible show wpAny _ _ (binaryOp .Mod (Value.int _ _) (Value.int _ _)) _ _ _); (refine my_mod (by omega) ?_); intro r9 er9 r09 r19))) | (k_unfold; (try dsimp only)) | (k_end; wrow_close) | walk1 | (dsimp only; walk1) | (leave1; (try dsimp only))))
        have q1 : @Ne Nat F9 I := hIn _ hF9
        have q2 : @Ne Nat F9 139 := hn4 _ hF9
        (refine ⟨_, _, rfl, ?_⟩; intro G k; refine Jn.un2 (k _ F9 _ _ _ _ _ _ _ _ _ _ _ _ _ (offL _ [I, 139]) (by k_asm) (by ((rename News _ _ _ _ => dN); refine cb_drop dN ?_; (repeat (refine List.forall_mem_cons.mpr ⟨by repeat (first | with_reducible assumption | exact List.Mem.head _ | refine memS ?_), ?_⟩)); (first | exact offL_sub | repeat (first | exact fun _ h => h | with_reducible assumption | refine subT ?_)))) (by repeat (first | exact nm_nil | refine nm_cons (by with_unfolding_all rfl) ?_))) ⟨offL_off (by repeat (first | exact fun _ h => h | with_reducible assumption | refine subT ?_)) (by ((repeat (refine ine_cons (by first | with_reducible assumption | ((rename @LT.lt Nat _ _ _ ∧ _ => hh); (repeat (replace hh := hh.2)); exact allLt_ne hh (Nat.le_refl _))) ?_)); exact ine_nil)), by exact offL_mem (by repeat (first | with_reducible assumption | exact List.Mem.head _ | refine memS ?_)) (by ((repeat (refine i1_cons (by ((try dsimp only); first | with_reducible assumption | (symm; with_reducible assumption) | exact Cm.nl1 (by with_reducible assumption) | exact Cm.ng1 (by with_reducible assumption) | exact Cm.nl2 (by with_reducible assumption) | exact Cm.ng2 (by with_reducible assumption) | exact Cm.nl3 (by with_reducible assumption) | exact Cm.ng3 (by with_reducible assumption) | exact Cm.nl4 (by with_reducible assumption) | exact Cm.ng4 (by with_reducible assumption) | exact Cm.nl5 (by with_reducible assumption) | exact Cm.ng5 (by with_reducible assumption) | exact Cm.nl6 (by with_reducible assumption) | exact Cm.ng6 (by with_reducible assumption) | exact Cm.nl7 (by with_reducible assumption) | exact Cm.ng7 (by with_reducible assumption) | exact Cm.nn1 (by with_reducible assumption) | exact Cm.nm1 (by with_reducible assumption) | exact Cm.nn2 (by with_reducible assumption) | exact Cm.nm2 (by with_reducible assumption) | exact Cm.nn3 (by with_reducible assumption) | exact Cm.nm3 (by with_reducible assumption) | exact Cm.nn4 (by with_reducible assumption) | exact Cm.nm4 (by with_reducible assumption) | exact Cm.nn5 (by with_reducible assumption) | exact Cm.nm5 (by with_reducible assumption) | omega)) ?_)); exact i1_nil))⟩)
    intro h5 tk5 hJ
    with_reducible refine hJ _ ?_
    clear hJ Jc
    rintro m5 F u0 u1 u2 u3 u4 u5 tb' ta tn ti tp tz cf ny F5 N5 M5 S5 hF
    with_reducible refine fr_fold F5 M5 ?_
    clear F5 Nx
    intro mm F5
    obtain ⟨slen, _, ah0, _, sloc, stold⟩ := SC
    generalize hPB : pileB (as.take (i + 1)) = PB at ep slen sloc stold
    have ez3 : z' = (PB.length : Int) := by omega
    subst ep ez3
    have hrm5 := S5.sub _ hrm4
    have R5 := rowsAre_mono S5.sub R4
    have hcc5 := S5.sub _ (S4.sub _ (S.sub _ hcc))
    have hI5 := off_one S5 (a := I) (by simp)
    have hn5 := off_one S5 (a := 139) (by simp)
    dsimp only [List.drop]
    let Jc : Heap → Prop := fun h' => ∀ G : Prop, (∀ (m' : Str → Option Value) (k1 k2 x dx fs fr rq du : Addr) (td : Value → Obj) (Sl : List (Addr × Obj)) (cr cd : Nat) (t0 x0 x1 x2 x3 x4 x5 x6 x7 x8 x9 ta tn ti tp tz ts : Tok), Fr g₁ L1 h' m' → News g₁ L1 h' ((du, listOf (rowA #[80, 75, 5, 6] #[] 0 0 65535 65535 4294967295 4294967295 0 ((PB.length : Int) - 22) x0 x1 x2 x3 x4 x5 x6 x7 x8 x9) cd) :: (rq, listOf (rowA #[80, 75, 5, 6] #[] 0 0 65535 65535 4294967295 4294967295 0 ((PB.length : Int) - 22) x0 x1 x2 x3 x4 x5 x6 x7 x8 x9) cr) :: (139, tabObj (hitTb k1 k2)) :: (dx, td (.int 0 t0)) :: (Sl ++ (I, it) :: ny)) →
      NmAre m' [("cells", .ref cc), ("rows", .ref rw), ("pile", .int (beN PB) tp), ("size", .int (PB.length : Int) tz), ("i", .int i ti), ("begin", .int a.bg tb'), ("ahead", .int a.ah ta), ("facts", .ref F), ("number", .int (beN a.bytes) tn), ("opens", .bool (opensA as i a)), ("reel", .ref x), ("row", .ref rq), ("due", .ref du), ("came", .bool false), ("start", .int a.bg ts)] →
      (∀ q ∈ Sl, @Ne Nat q.1 dx ∧ @Ne Nat q.1 139 ∧ (q ∈ ny ∨ ∀ r ∈ (I, it) :: ny, @Ne Nat q.1 r.1)) → (∀ r ∈ (I, it) :: ny, @Ne Nat r.1 dx) → @Ne Nat 139 dx → TabHit Sl k1 k2 → (∀ q ∈ (139, tabObj (hitTb k1 k2)) :: (dx, td (.int 0 t0)) :: (Sl ++ (I, it) :: ny), @LT.lt Nat instLTNat q.1 rq) → @LT.lt Nat instLTNat rq du →
      SeekK prog w p loose mean mg mb dx fs td Sl → ReadK prog w p loose mean mg mb dx fr td Sl PB → GetK prog w x dx fs "seek" td Sl → GetK prog w x dx fr "read" td Sl → FnK fs Sl → FnK fr Sl → G) → G
    with_reducible refine Jn.ckpt 5 Jc ?_ ?_
    · dsimp only [List.take, List.drop]
      k_fold
      (repeat' (first | ((with_reducible refine Blk.into ?_); (first | ((with_reducible show wpAny _ _ (call (Value.type "list") [Value.ref _]) _ _ _); (k_dflt (refine copy_any (by k_asm) (by k_asm) (by repeat (first | with_reducible assumption | exact List.Mem.head _ | refine memS ?_)) (by (simp only [List.size_toArray, List.length_cons, List.length_nil]; omega)) ?_)); intro Dq cq hq Fq Nq lq1; (try k_lt lq1); (try k_sweep)) | ((with_reducible show wpAny _ _ (binaryOp .Add (Value.ref _) (Value.ref _)) _ _ _); (k_dflt (refine add_lit (by k_asm) (by k_asm) (by repeat (first | with_reducible assumption | exact List.Mem.head _ | refine memS ?_)) (by repeat (first | with_reducible assumption | exact List.Mem.head _ | refine memS ?_)) (by (simp only [List.length_cons, List.length_nil]; omega)) ?_)); intro Dq hq Fq Nq lq1; (simp only [List.cons_append, List.nil_append] at Nq); (try k_lt lq1); (try k_sweep)) | ((with_reducible show wpAny _ _ (compareOp .NotEq (Value.bool _) (Value.bool _)) _ _ _); (with_reducible refine ne_self ?_)) | ((with_reducible show wpAny _ _ (compareOp .NotEq (Value.ref _) (Value.ref _)) _ _ _); (refine ne_rows (by k_asm) (by with_reducible assumption) (by with_reducible assumption) (by with_reducible assumption) (by ((try simp only [units_deeper, units_in1, ktrTop, cLine_is]); omega)) ?_)) | (with_reducible ((with_reducible show wpAny _ _ (subscriptTail _ (Expr.Slice none (some _) none _) (Value.ref _) (Value.ref _)) _ _ _); k_dflt (refine' kmk_slice (by k_asm) (by k_asm) (by kmk_list) (by kmk_part) (by kmk_part) ?_ (by with_unfolding_all rfl) (by kmk_pure) (by (show _ ≤ 16777216; omega))); intro D' h' F' N' l1; (try k_lt l1); (try k_sweep))) | ((with_reducible show wpAny _ _ (compareOp .NotIn (Value.int _ _) (Value.ref _)) _ _ _); (refine notin_ints (by k_asm) (by exact List.Mem.head _) (by with_reducible assumption) ?_)) | ((with_reducible show wpAny _ _ (call (Value.builtin "len") [Value.ref _]) _ _ _); k_dflt (refine len_rows (by k_asm) (by repeat (first | with_reducible assumption | exact List.Mem.head _ | refine memS ?_)) (by with_reducible assumption) ?_); intro _ _) | ((with_reducible show wpAny _ _ (subscriptTail _ _ (Value.ref _) (Value.int _ _)) _ _ _); k_dflt (first | (refine item_rows (by k_asm) (by repeat (first | with_reducible assumption | refine memS ?_)) (by with_reducible assumption) (by omega) (by omega) (by with_reducible assumption) ?_ (by with_unfolding_all rfl); intro T9 F9 tb9 ta9 tn9 u0 u1 u2 u3 u4 u5 c9 c9' hT9 hF9) | (refine item_tupleT (News.isTup (by k_asm) (by repeat (first | with_reducible assumption | refine memS ?_))) (by decide) (by decide) (by rfl) (by rfl) ?_) | (refine item_ints (by k_asm) (by repeat (first | with_reducible assumption | refine memS ?_)) hxs (by omega) (by (first | omega | (simp only [List.size_toArray, List.length_cons, List.length_nil]; omega))) (by (simp only [List.size_toArray, List.length_cons, List.length_nil]; omega)) ?_ (by with_unfolding_all rfl); intro x9 tx9 hx9) | (refine my_item (by k_asm) (by repeat (first | with_reducible assumption | refine memS ?_)) (by decide) (by decide) (by with_unfolding_all rfl) ?_ (by with_unfolding_all rfl))); (try simp only [Int.reduceToNat, List.getElem_toArray, List.getElem_cons_zero, List.getElem_cons_succ])) | ((with_reducible show wpAny _ _ (binaryOp .LShift (Value.int _ _) (Value.int _ _)) _ _ _); (refine my_lshift (by omega) (by omega) ?_); intro v9 ev9) | ((with_reducible show wpAny _ _ (binaryOp .Pow (Value.int 2 _) (Value.int _ _)) _ _ _); (refine my_powV (by omega) (by omega) ?_); intro v9 pv9 gv9) | ((with_reducible show wpAny _ _ (binaryOp .Mult (Value.int _ _) (Value.int _ _)) _ _ _); (first | refine my_mulS (by omega) (by omega) ?_ | with_reducible refine mul_two (by with_reducible assumption) (by omega) (by with_reducible assumption) (by with_reducible assumption) ?_ | refine my_mul (by omega) ?_)) | ((with_reducible show wpAny _ _ (binaryOp .Mod (Value.int _ _) (Value.int _ _)) _ _ _); (refine my_mod (by omega) ?_); intro r9 er9 r09 r19))) | (k_unfold; (try dsimp only)) | (k_end; wrow_close) | walk1 | (dsimp only; walk1) | (leave1; (try dsimp only))))
      refine Blk.into ?_
      k_dflt (refine' reel_any (old := ny) (PB := PB) (tb := tb) ?hz ?C ?hn ?hold ?htb ?H ?_)
      case H =>
        refine ⟨?B, ?F, ?X, ?N, ?T, ?K, ?D, ?U⟩
        case N => (rename News _ _ _ _ => dN); exact rot1 dN
        case B => k_asm
        case F => k_asm
        case X => k_asm
        case T => k_asm
        case K => exact rfl
        case D => (simp only [depth_deeper, depth_in1, ktrTop]; omega)
        case U => (simp only [units_deeper, units_in1, ktrTop]; omega)
      case hz => omega
      case C => exact C
      case hn => exact List.forall_mem_cons.mpr ⟨hI1.symm, hn5⟩
      case hold => exact fun q hq => .tail _ hq
      case htb => exact tabOk_mono htb S5.sub
      intro k1 k2 x dx fs fr td Sl h' tk' t0 F' N' hS1 hS2 hS3 hH hsk hrk hgs hgr hfs hfr
      (repeat' (first | ((with_reducible refine Blk.into ?_); (first | ((with_reducible show wpAny _ _ (call (Value.type "list") [Value.ref _]) _ _ _); (k_dflt (refine copy_any (by k_asm) (by k_asm) (by repeat (first | with_reducible assumption | exact List.Mem.head _ | refine memS ?_)) (by (simp only [List.size_toArray, List.length_cons, List.length_nil]; omega)) ?_)); intro Dq cq hq Fq Nq lq1; (try k_lt lq1); (try k_sweep)) | ((with_reducible show wpAny _ _ (binaryOp .Add (Value.ref _) (Value.ref _)) _ _ _); (k_dflt (refine add_lit (by k_asm) (by k_asm) (by repeat (first | with_reducible assumption | exact List.Mem.head _ | refine memS ?_)) (by repeat (first | with_reducible assumption | exact List.Mem.head _ | refine memS ?_)) (by (simp only [List.length_cons, List.length_nil]; omega)) ?_)); intro Dq hq Fq Nq lq1; (simp only [List.cons_append, List.nil_append] at Nq); (try k_lt lq1); (try k_sweep)) | ((with_reducible show wpAny _ _ (compareOp .NotEq (Value.bool _) (Value.bool _)) _ _ _); (with_reducible refine ne_self ?_)) | ((with_reducible show wpAny _ _ (compareOp .NotEq (Value.ref _) (Value.ref _)) _ _ _); (refine ne_rows (by k_asm) (by with_reducible assumption) (by with_reducible assumption) (by with_reducible assumption) (by ((try simp only [units_deeper, units_in1, ktrTop, cLine_is]); omega)) ?_)) | (with_reducible ((with_reducible show wpAny _ _ (subscriptTail _ (Expr.Slice none (some _) none _) (Value.ref _) (Value.ref _)) _ _ _); k_dflt (refine' kmk_slice (by k_asm) (by k_asm) (by kmk_list) (by kmk_part) (by kmk_part) ?_ (by with_unfolding_all rfl) (by kmk_pure) (by (show _ ≤ 16777216; omega))); intro D' h' F' N' l1; (try k_lt l1); (try k_sweep))) | ((with_reducible show wpAny _ _ (compareOp .NotIn (Value.int _ _) (Value.ref _)) _ _ _); (refine notin_ints (by k_asm) (by exact List.Mem.head _) (by with_reducible assumption) ?_)) | ((with_reducible show wpAny _ _ (call (Value.builtin "len") [Value.ref _]) _ _ _); k_dflt (refine len_rows (by k_asm) (by repeat (first | with_reducible assumption | exact List.Mem.head _ | refine memS ?_)) (by with_reducible assumption) ?_); intro _ _) | ((with_reducible show wpAny _ _ (subscriptTail _ _ (Value.ref _) (Value.int _ _)) _ _ _); k_dflt (first | (refine item_rows (by k_asm) (by repeat (first | with_reducible assumption | refine memS ?_)) (by with_reducible assumption) (by omega) (by omega) (by with_reducible assumption) ?_ (by with_unfolding_all rfl); intro T9 F9 tb9 ta9 tn9 u0 u1 u2 u3 u4 u5 c9 c9' hT9 hF9) | (refine item_tupleT (News.isTup (by k_asm) (by repeat (first | with_reducible assumption | refine memS ?_))) (by decide) (by decide) (by rfl) (by rfl) ?_) | (refine item_ints (by k_asm) (by repeat (first | with_reducible assumption | refine memS ?_)) hxs (by omega) (by (first | omega | (simp only [List.size_toArray, List.length_cons, List.length_nil]; omega))) (by (simp only [List.size_toArray, List.length_cons, List.length_nil]; omega)) ?_ (by with_unfolding_all rfl); intro x9 tx9 hx9) | (refine my_item (by k_asm) (by repeat (first | with_reducible assumption | refine memS ?_)) (by decide) (by decide) (by with_unfolding_all rfl) ?_ (by with_unfolding_all rfl))); (try simp only [Int.reduceToNat, List.getElem_toArray, List.getElem_cons_zero, List.getElem_cons_succ])) | ((with_reducible show wpAny _ _ (binaryOp .LShift (Value.int _ _) (Value.int _ _)) _ _ _); (refine my_lshift (by omega) (by omega) ?_); intro v9 ev9) | ((with_reducible show wpAny _ _ (binaryOp .Pow (Value.int 2 _) (Value.int _ _)) _ _ _); (refine my_powV (by omega) (by omega) ?_); intro v9 pv9 gv9) | ((with_reducible show wpAny _ _ (binaryOp .Mult (Value.int _ _) (Value.int _ _)) _ _ _); (first | refine my_mulS (by omega) (by omega) ?_ | with_reducible refine mul_two (by with_reducible assumption) (by omega) (by with_reducible assumption) (by with_reducible assumption) ?_ | refine my_mul (by omega) ?_)) | ((with_reducible show wpAny _ _ (binaryOp .Mod (Value.int _ _) (Value.int _ _)) _ _ _); (refine my_mod (by omega) ?_); intro r9 er9 r09 r19))) | (k_unfold; (try dsimp only)) | (k_end; wrow_close) | walk1 | (dsimp only; walk1) | (leave1; (try dsimp only))))
      rename @LT.lt Nat _ 139 _ ∧ _ ∧ AllLt _ _ => l9
      rename @LT.lt Nat _ _ _ ∧ _ ∧ _ ∧ AllLt _ _ => l8
      (refine ⟨_, _, rfl, ?_⟩; intro G k; exact Jn.un12 (k _ k1 k2 x dx fs fr _ _ td Sl _ _ t0 _ _ _ _ _ _ _ _ _ _ _ _ _ _ _ _ (by k_asm) (by k_asm) (by repeat (first | exact nm_nil | refine nm_cons (by with_unfolding_all rfl) ?_))) ⟨hS1, hS2, hS3, hH, List.forall_mem_cons.mpr ⟨l9.1, List.forall_mem_cons.mpr ⟨l9.2.1, allLt_mem l9.2.2⟩⟩, l8.1, hsk, hrk, hgs, hgr, hfs, hfr⟩)
    intro h6 tk6 hJ
    with_reducible refine hJ _ ?_
    clear hJ Jc
    rintro m6 k1 k2 x dx fs fr rq du td Sl cr cd t0 x0 x1 x2 x3 x4 x5 x6 x7 x8 x9 ta tn ti tp tz ts F6 N6 M6 hS1 hS2 hS3 hH hrq ldu hsk hrk hgs hgr hfs hfr
    with_reducible refine fr_fold F6 M6 ?_
    clear F6 N5
    intro mm F6
    have d2 : @Ne Nat dx rq := Nat.ne_of_lt (hrq _ (.tail _ (.head _)))
    have hin : ∀ q ∈ (I, it) :: ny, q ∈ offL ((du, listOf (rowA #[80, 75, 5, 6] #[] 0 0 65535 65535 4294967295 4294967295 0 ((PB.length : Int) - 22) x0 x1 x2 x3 x4 x5 x6 x7 x8 x9) cd) :: (rq, listOf (rowA #[80, 75, 5, 6] #[] 0 0 65535 65535 4294967295 4294967295 0 ((PB.length : Int) - 22) x0 x1 x2 x3 x4 x5 x6 x7 x8 x9) cr) :: (139, tabObj (hitTb k1 k2)) :: (dx, td (.int 0 t0)) :: (Sl ++ (I, it) :: ny)) [dx, rq] := fun q hq => offL_mem (.tail _ (.tail _ (.tail _ (.tail _ (List.mem_append_right _ hq))))) (i1_cons (hS2 q hq) (i1_cons (Nat.ne_of_lt (hrq q (.tail _ (.tail _ (List.mem_append_right _ hq))))) i1_nil))
    have hSr : ∀ q ∈ Sl, q ∈ offL ((du, listOf (rowA #[80, 75, 5, 6] #[] 0 0 65535 65535 4294967295 4294967295 0 ((PB.length : Int) - 22) x0 x1 x2 x3 x4 x5 x6 x7 x8 x9) cd) :: (rq, listOf (rowA #[80, 75, 5, 6] #[] 0 0 65535 65535 4294967295 4294967295 0 ((PB.length : Int) - 22) x0 x1 x2 x3 x4 x5 x6 x7 x8 x9) cr) :: (139, tabObj (hitTb k1 k2)) :: (dx, td (.int 0 t0)) :: (Sl ++ (I, it) :: ny)) [dx, rq] := fun q hq => offL_mem (.tail _ (.tail _ (.tail _ (.tail _ (List.mem_append_left _ hq))))) (i1_cons (hS1 q hq).1 (i1_cons (Nat.ne_of_lt (hrq q (.tail _ (.tail _ (List.mem_append_left _ hq))))) i1_nil))
    have h139r : (139, tabObj (hitTb k1 k2)) ∈ offL ((du, listOf (rowA #[80, 75, 5, 6] #[] 0 0 65535 65535 4294967295 4294967295 0 ((PB.length : Int) - 22) x0 x1 x2 x3 x4 x5 x6 x7 x8 x9) cd) :: (rq, listOf (rowA #[80, 75, 5, 6] #[] 0 0 65535 65535 4294967295 4294967295 0 ((PB.length : Int) - 22) x0 x1 x2 x3 x4 x5 x6 x7 x8 x9) cr) :: (139, tabObj (hitTb k1 k2)) :: (dx, td (.int 0 t0)) :: (Sl ++ (I, it) :: ny)) [dx, rq] := offL_mem (.tail _ (.tail _ (.head _))) (i1_cons hS3 (i1_cons (Nat.ne_of_lt (hrq _ (.head _))) i1_nil))
    have hdur : (du, listOf (rowA #[80, 75, 5, 6] #[] 0 0 65535 65535 4294967295 4294967295 0 ((PB.length : Int) - 22) x0 x1 x2 x3 x4 x5 x6 x7 x8 x9) cd) ∈ offL ((du, listOf (rowA #[80, 75, 5, 6] #[] 0 0 65535 65535 4294967295 4294967295 0 ((PB.length : Int) - 22) x0 x1 x2 x3 x4 x5 x6 x7 x8 x9) cd) :: (rq, listOf (rowA #[80, 75, 5, 6] #[] 0 0 65535 65535 4294967295 4294967295 0 ((PB.length : Int) - 22) x0 x1 x2 x3 x4 x5 x6 x7 x8 x9) cr) :: (139, tabObj (hitTb k1 k2)) :: (dx, td (.int 0 t0)) :: (Sl ++ (I, it) :: ny)) [dx, rq] := offL_mem (.head _) (i1_cons (Nat.ne_of_gt (Nat.lt_trans (hrq _ (.tail _ (.head _))) ldu)) (i1_cons (Nat.ne_of_gt ldu) i1_nil))
    have NE : News g₁ L1 h6 ((dx, td (.int 0 t0)) :: (rq, listOf (rowA #[80, 75, 5, 6] #[] 0 0 65535 65535 4294967295 4294967295 0 ((PB.length : Int) - 22) x0 x1 x2 x3 x4 x5 x6 x7 x8 x9) cr) :: offL ((du, listOf (rowA #[80, 75, 5, 6] #[] 0 0 65535 65535 4294967295 4294967295 0 ((PB.length : Int) - 22) x0 x1 x2 x3 x4 x5 x6 x7 x8 x9) cd) :: (rq, listOf (rowA #[80, 75, 5, 6] #[] 0 0 65535 65535 4294967295 4294967295 0 ((PB.length : Int) - 22) x0 x1 x2 x3 x4 x5 x6 x7 x8 x9) cr) :: (139, tabObj (hitTb k1 k2)) :: (dx, td (.int 0 t0)) :: (Sl ++ (I, it) :: ny)) [dx, rq]) := cb_drop N6 (List.forall_mem_cons.mpr ⟨.tail _ (.tail _ (.tail _ (.head _))), List.forall_mem_cons.mpr ⟨.tail _ (.head _), offL_sub⟩⟩)
    have hoffE := (offL_off (all := (du, listOf (rowA #[80, 75, 5, 6] #[] 0 0 65535 65535 4294967295 4294967295 0 ((PB.length : Int) - 22) x0 x1 x2 x3 x4 x5 x6 x7 x8 x9) cd) :: (rq, listOf (rowA #[80, 75, 5, 6] #[] 0 0 65535 65535 4294967295 4294967295 0 ((PB.length : Int) - 22) x0 x1 x2 x3 x4 x5 x6 x7 x8 x9) cr) :: (139, tabObj (hitTb k1 k2)) :: (dx, td (.int 0 t0)) :: (Sl ++ (I, it) :: ny)) (news := []) (as := [dx, rq]) (fun _ h => nomatch h) (fun _ h => nomatch h)).off
    generalize offL ((du, listOf (rowA #[80, 75, 5, 6] #[] 0 0 65535 65535 4294967295 4294967295 0 ((PB.length : Int) - 22) x0 x1 x2 x3 x4 x5 x6 x7 x8 x9) cd) :: (rq, listOf (rowA #[80, 75, 5, 6] #[] 0 0 65535 65535 4294967295 4294967295 0 ((PB.length : Int) - 22) x0 x1 x2 x3 x4 x5 x6 x7 x8 x9) cr) :: (139, tabObj (hitTb k1 k2)) :: (dx, td (.int 0 t0)) :: (Sl ++ (I, it) :: ny)) [dx, rq] = rest at *
    clear N6
    have E1 : ((PB.length : Int) - 22 - 20) = a.bg + a.ah + 98 - 42 := by omega
    obtain ⟨lf0, lf1, lf2, lf3⟩ := loc_facts (c := a.ah) ah0 (by omega)
    rw [← sloc, ← E1] at lf0 lf1 lf2 lf3
    obtain ⟨d, xs, hd4, hfo, hcase⟩ := stold
    have hfo' : (cutB PB a.ah 56 = d ∧ xs = (PB.length : Int) - 22 - 76 - a.ah) ∨ ((cutB PB a.ah 56).take 4 ≠ [80, 75, 6, 6] ∧ a.ah ≠ (PB.length : Int) - 22 - 76 ∧ cutB PB ((PB.length : Int) - 22 - 76) 56 = d ∧ xs = 0) := by
      rcases hfo with ⟨f1, f2⟩ | ⟨f1, f2, f3, f4⟩
      · exact .inl ⟨f1, by omega⟩
      · exact .inr ⟨f1, by omega, by rw [show (PB.length : Int) - 22 - 76 = a.bg + a.ah + 98 - 98 by omega]; exact f3, f4⟩
    clear hfo sloc E1
    have hFr := hin _ (.tail _ hF)
    have isA := arc_is ok (by omega)
    let Jc : Heap → Prop := fun h' => ∀ G : Prop, (∀ (g' : Heap) (m' : Str → Option Value) (na : List (Addr × Obj)) (rowB dA : Array Value) (du' : Addr) (crb cdb : Nat) (st : Int) (cm : Bool) (tn ti tp tz ts : Tok), Fr g' L1 h' m' → News g' L1 h' na → NmAre m' [("cells", .ref cc), ("rows", .ref rw), ("pile", .int (beN PB) tp), ("size", .int (PB.length : Int) tz), ("i", .int i ti), ("number", .int (beN a.bytes) tn), ("opens", .bool (opensA as i a)), ("row", .ref rq), ("due", .ref du'), ("came", .bool cm), ("start", .int st ts)] → (∀ q ∈ rest, q ∈ na) → (rq, listOf rowB crb) ∈ na → (du', listOf dA cdb) ∈ na → RowsEq rowB dA → st = a.bg → cm = opensA as i a → KtsTurn [L] g g' → Below (ktrTop dp un gd cn cs L ad ccd cl []) base [envX cn cs L ad ccd cl] g' → (hd.heap_39 w.params).In g' → Top p loose mean mg mb g' → KtsDicts [L] g' → G) → G
    with_reducible refine Jn.ckpt 1 Jc ?_ ?_
    · dsimp only [List.take, List.drop]
      k_fold
      (repeat' (first | ((with_reducible refine Blk.into ?_); (first | ((with_reducible show wpAny _ _ (call (Value.type "list") [Value.ref _]) _ _ _); (k_dflt (refine copy_any (by k_asm) (by k_asm) (by repeat (first | with_reducible assumption | exact List.Mem.head _ | refine memS ?_)) (by (simp only [List.size_toArray, List.length_cons, List.length_nil]; omega)) ?_)); intro Dq cq hq Fq Nq lq1; (try k_lt lq1); (try k_sweep)) | ((with_reducible show wpAny _ _ (binaryOp .Add (Value.ref _) (Value.ref _)) _ _ _); (k_dflt (refine add_lit (by k_asm) (by k_asm) (by repeat (first | with_reducible assumption | exact List.Mem.head _ | refine memS ?_)) (by repeat (first | with_reducible assumption | exact List.Mem.head _ | refine memS ?_)) (by (simp only [List.length_cons, List.length_nil]; omega)) ?_)); intro Dq hq Fq Nq lq1; (simp only [List.cons_append, List.nil_append] at Nq); (try k_lt lq1); (try k_sweep)) | ((with_reducible show wpAny _ _ (compareOp .NotEq (Value.bool _) (Value.bool _)) _ _ _); (with_reducible refine ne_self ?_)) | ((with_reducible show wpAny _ _ (compareOp .NotEq (Value.ref _) (Value.ref _)) _ _ _); (refine ne_rows (by k_asm) (by with_reducible assumption) (by with_reducible assumption) (by with_reducible assumption) (by ((try simp only [units_deeper, units_in1, ktrTop, cLine_is]); omega)) ?_)) | (with_reducible ((with_reducible show wpAny _ _ (subscriptTail _ (Expr.Slice none (some _) none _) (Value.ref _) (Value.ref _)) _ _ _); k_dflt (refine' kmk_slice (by k_asm) (by k_asm) (by kmk_list) (by kmk_part) (by kmk_part) ?_ (by with_unfolding_all rfl) (by kmk_pure) (by (show _ ≤ 16777216; omega))); intro D' h' F' N' l1; (try k_lt l1); (try k_sweep))) | ((with_reducible show wpAny _ _ (compareOp .NotIn (Value.int _ _) (Value.ref _)) _ _ _); (refine notin_ints (by k_asm) (by exact List.Mem.head _) (by with_reducible assumption) ?_)) | ((with_reducible show wpAny _ _ (call (Value.builtin "len") [Value.ref _]) _ _ _); k_dflt (refine len_rows (by k_asm) (by repeat (first | with_reducible assumption | exact List.Mem.head _ | refine memS ?_)) (by with_reducible assumption) ?_); intro _ _) | ((with_reducible show wpAny _ _ (subscriptTail _ _ (Value.ref _) (Value.int _ _)) _ _ _); k_dflt (first | (refine item_rows (by k_asm) (by repeat (first | with_reducible assumption | refine memS ?_)) (by with_reducible assumption) (by omega) (by omega) (by with_reducible assumption) ?_ (by with_unfolding_all rfl); intro T9 F9 tb9 ta9 tn9 u0 u1 u2 u3 u4 u5 c9 c9' hT9 hF9) | (refine item_tupleT (News.isTup (by k_asm) (by repeat (first | with_reducible assumption | refine memS ?_))) (by decide) (by decide) (by rfl) (by rfl) ?_) | (refine item_ints (by k_asm) (by repeat (first | with_reducible assumption | refine memS ?_)) hxs (by omega) (by (first | omega | (simp only [List.size_toArray, List.length_cons, List.length_nil]; omega))) (by (simp only [List.size_toArray, List.length_cons, List.length_nil]; omega)) ?_ (by with_unfolding_all rfl); intro x9 tx9 hx9) | (refine my_item (by k_asm) (by repeat (first | with_reducible assumption | refine memS ?_)) (by decide) (by decide) (by with_unfolding_all rfl) ?_ (by with_unfolding_all rfl))); (try simp only [Int.reduceToNat, List.getElem_toArray, List.getElem_cons_zero, List.getElem_cons_succ])) | ((with_reducible show wpAny _ _ (binaryOp .LShift (Value.int _ _) (Value.int _ _)) _ _ _); (refine my_lshift (by omega) (by omega) ?_); intro v9 ev9) | ((with_reducible show wpAny _ _ (binaryOp .Pow (Value.int 2 _) (Value.int _ _)) _ _ _); (refine my_powV (by omega) (by omega) ?_); intro v9 pv9 gv9) | ((with_reducible show wpAny _ _ (binaryOp .Mult (Value.int _ _) (Value.int _ _)) _ _ _); (first | refine my_mulS (by omega) (by omega) ?_ | with_reducible refine mul_two (by with_reducible assumption) (by omega) (by with_reducible assumption) (by with_reducible assumption) ?_ | refine my_mul (by omega) ?_)) | ((with_reducible show wpAny _ _ (binaryOp .Mod (Value.int _ _) (Value.int _ _)) _ _ _); (refine my_mod (by omega) ?_); intro r9 er9 r09 r19))) | (k_unfold; (try dsimp only)) | (k_end; wrow_close) | walk1 | (dsimp only; walk1) | (leave1; (try dsimp only))))
      refine Blk.into ?_
      k_dflt (refine' end_call (rest := rest) (S := Sl) (td := td) (PB := PB) (c := a.ah) (xs := xs) (d := d) hgs hgr hsk hrk hfs hfr ?he0 ?he hSr ?hdx ?hrw d2 lf0 lf1 lf2 lf3 ah0 ?hc1 hd4 hfo' ?H ?hnew ?hbad)
      case he0 => omega
      case he => omega
      case hc1 => omega
      case hdx => exact fun q hq => hoffE q hq _ (.head _)
      case hrw => exact fun q hq => hoffE q hq _ (.tail _ (.head _))
      case H =>
        refine ⟨?B, ?F, ?X, ?N, ?T, ?K, ?D, ?U⟩
        case N => exact NE
        case B => k_asm
        case F => k_asm
        case X => k_asm
        case T => k_asm
        case K => exact rfl
        case D => (simp only [depth_deeper, depth_in1, ktrTop]; omega)
        case U => (simp only [units_deeper, units_in1, ktrTop]; omega)
      case hnew =>
        intro hok spot news' h' tk' y0 y1 y2 y3 y4 y5 y6 y9 hled hsp F' N'
        obtain ⟨hsub, ec, hrwm⟩ := hled
        rcases hcase with ⟨hop, rfl, rfl⟩ | ⟨_, hno⟩
        · rw [isA.sg, isA.e0, isA.e1, isA.e2, isA.e3, isA.e4, isA.e5] at hrwm
          have hsp2 : spot = a.bg + a.ah := by omega
          subst hsp2
          have hF7 := hsub _ hFr
          clear NE
          (repeat' (first | ((with_reducible refine Blk.into ?_); (first | ((with_reducible show wpAny _ _ (call (Value.type "list") [Value.ref _]) _ _ _); (k_dflt (refine copy_any (by k_asm) (by k_asm) (by repeat (first | with_reducible assumption | exact List.Mem.head _ | refine memS ?_)) (by (simp only [List.size_toArray, List.length_cons, List.length_nil]; omega)) ?_)); intro Dq cq hq Fq Nq lq1; (try k_lt lq1); (try k_sweep)) | ((with_reducible show wpAny _ _ (binaryOp .Add (Value.ref _) (Value.ref _)) _ _ _); (k_dflt (refine add_lit (by k_asm) (by k_asm) (by repeat (first | with_reducible assumption | exact List.Mem.head _ | refine memS ?_)) (by repeat (first | with_reducible assumption | exact List.Mem.head _ | refine memS ?_)) (by (simp only [List.length_cons, List.length_nil]; omega)) ?_)); intro Dq hq Fq Nq lq1; (simp only [List.cons_append, List.nil_append] at Nq); (try k_lt lq1); (try k_sweep)) | ((with_reducible show wpAny _ _ (compareOp .NotEq (Value.bool _) (Value.bool _)) _ _ _); (with_reducible refine ne_self ?_)) | ((with_reducible show wpAny _ _ (compareOp .NotEq (Value.ref _) (Value.ref _)) _ _ _); (refine ne_rows (by k_asm) (by with_reducible assumption) (by with_reducible assumption) (by with_reducible assumption) (by ((try simp only [units_deeper, units_in1, ktrTop, cLine_is]); omega)) ?_)) | (with_reducible ((with_reducible show wpAny _ _ (subscriptTail _ (Expr.Slice none (some _) none _) (Value.ref _) (Value.ref _)) _ _ _); k_dflt (refine' kmk_slice (by k_asm) (by k_asm) (by kmk_list) (by kmk_part) (by kmk_part) ?_ (by with_unfolding_all rfl) (by kmk_pure) (by (show _ ≤ 16777216; omega))); intro D' h' F' N' l1; (try k_lt l1); (try k_sweep))) | ((with_reducible show wpAny _ _ (compareOp .NotIn (Value.int _ _) (Value.ref _)) _ _ _); (refine notin_ints (by k_asm) (by exact List.Mem.head _) (by with_reducible assumption) ?_)) | ((with_reducible show wpAny _ _ (call (Value.builtin "len") [Value.ref _]) _ _ _); k_dflt (refine len_rows (by k_asm) (by repeat (first | with_reducible assumption | exact List.Mem.head _ | refine memS ?_)) (by with_reducible assumption) ?_); intro _ _) | ((with_reducible show wpAny _ _ (subscriptTail _ _ (Value.ref _) (Value.int _ _)) _ _ _); k_dflt (first | (refine item_rows (by k_asm) (by repeat (first | with_reducible assumption | refine memS ?_)) (by with_reducible assumption) (by omega) (by omega) (by with_reducible assumption) ?_ (by with_unfolding_all rfl); intro T9 F9 tb9 ta9 tn9 u0 u1 u2 u3 u4 u5 c9 c9' hT9 hF9) | (refine item_tupleT (News.isTup (by k_asm) (by repeat (first | with_reducible assumption | refine memS ?_))) (by decide) (by decide) (by rfl) (by rfl) ?_) | (refine item_ints (by k_asm) (by repeat (first | with_reducible assumption | refine memS ?_)) hxs (by omega) (by (first | omega | (simp only [List.size_toArray, List.length_cons, List.length_nil]; omega))) (by (simp only [List.size_toArray, List.length_cons, List.length_nil]; omega)) ?_ (by with_unfolding_all rfl); intro x9 tx9 hx9) | (refine my_item (by k_asm) (by repeat (first | with_reducible assumption | refine memS ?_)) (by decide) (by decide) (by with_unfolding_all rfl) ?_ (by with_unfolding_all rfl))); (try simp only [Int.reduceToNat, List.getElem_toArray, List.getElem_cons_zero, List.getElem_cons_succ])) | ((with_reducible show wpAny _ _ (binaryOp .LShift (Value.int _ _) (Value.int _ _)) _ _ _); (refine my_lshift (by omega) (by omega) ?_); intro v9 ev9) | ((with_reducible show wpAny _ _ (binaryOp .Pow (Value.int 2 _) (Value.int _ _)) _ _ _); (refine my_powV (by omega) (by omega) ?_); intro v9 pv9 gv9) | ((with_reducible show wpAny _ _ (binaryOp .Mult (Value.int _ _) (Value.int _ _)) _ _ _); (first | refine my_mulS (by omega) (by omega) ?_ | with_reducible refine mul_two (by with_reducible assumption) (by omega) (by with_reducible assumption) (by with_reducible assumption) ?_ | refine my_mul (by omega) ?_)) | ((with_reducible show wpAny _ _ (binaryOp .Mod (Value.int _ _) (Value.int _ _)) _ _ _); (refine my_mod (by omega) ?_); intro r9 er9 r09 r19))) | (k_unfold; (try dsimp only)) | (k_end; wrow_close) | walk1 | (dsimp only; walk1) | (leave1; (try dsimp only))))
          (refine ⟨_, _, rfl, ?_⟩; intro G k; exact Jn.un11 (k g₁ _ _ _ _ _ _ _ _ _ _ _ _ _ _ (by k_asm) (by k_asm) (by repeat (first | exact nm_nil | refine nm_cons (by with_unfolding_all rfl) ?_))) ⟨by repeat (first | exact fun _ h => h | with_reducible assumption | refine subT ?_), by repeat (first | with_reducible assumption | refine memS ?_), List.Mem.head _, ⟨_, _, _, _, _, _, _, _, _, _, _, _, _, _, _, _, _, _, _, _, _, _, _, _, _, _, _, _, _, _, rfl, rfl⟩, by omega, hop.symm, T2, B2, X2, P2, D2⟩)
        · exact absurd hok hno
      case hbad =>
        intro hno news' g2 h' tk' ex hled hR F' hU
        obtain ⟨hsub, ec, hrwm⟩ := hled
        rcases hcase with ⟨hop, rfl, rfl⟩ | ⟨hop, _⟩
        · exact absurd (by rw [isA.e4, isA.e5, isA.told]; exact ⟨by omega, rfl⟩) hno
        · clear NE
          k_unfold
          try dsimp only
          refine Jn.noteX hR rfl rfl hU ?_
          intro h2 R2 U2
          refine Jn.hitX R2 rfl F' B2 U2 XB TB D2 ?T ?k ?hE
          case T =>
            refine' Jn.testX ?n ?x ?hk ?hx ?hd
            case n => kts_nm
            case x => kts_exm
            case hk => exact rfl
            case hx => exact rfl
            case hd => decide
          case hE => first | passes_own | with_unfolding_all passes_own
          case k =>
            intro h3 g3 T3 F3 N3 K3 X3 P3 D3
            (repeat' (first | ((with_reducible refine Blk.into ?_); (first | ((with_reducible show wpAny _ _ (call (Value.type "list") [Value.ref _]) _ _ _); (k_dflt (refine copy_any (by k_asm) (by k_asm) (by repeat (first | with_reducible assumption | exact List.Mem.head _ | refine memS ?_)) (by (simp only [List.size_toArray, List.length_cons, List.length_nil]; omega)) ?_)); intro Dq cq hq Fq Nq lq1; (try k_lt lq1); (try k_sweep)) | ((with_reducible show wpAny _ _ (binaryOp .Add (Value.ref _) (Value.ref _)) _ _ _); (k_dflt (refine add_lit (by k_asm) (by k_asm) (by repeat (first | with_reducible assumption | exact List.Mem.head _ | refine memS ?_)) (by repeat (first | with_reducible assumption | exact List.Mem.head _ | refine memS ?_)) (by (simp only [List.length_cons, List.length_nil]; omega)) ?_)); intro Dq hq Fq Nq lq1; (simp only [List.cons_append, List.nil_append] at Nq); (try k_lt lq1); (try k_sweep)) | ((with_reducible show wpAny _ _ (compareOp .NotEq (Value.bool _) (Value.bool _)) _ _ _); (with_reducible refine ne_self ?_)) | ((with_reducible show wpAny _ _ (compareOp .NotEq (Value.ref _) (Value.ref _)) _ _ _); (refine ne_rows (by k_asm) (by with_reducible assumption) (by with_reducible assumption) (by with_reducible assumption) (by ((try simp only [units_deeper, units_in1, ktrTop, cLine_is]); omega)) ?_)) | (with_reducible ((with_reducible show wpAny _ _ (subscriptTail _ (Expr.Slice none (some _) none _) (Value.ref _) (Value.ref _)) _ _ _); k_dflt (refine' kmk_slice (by k_asm) (by k_asm) (by kmk_list) (by kmk_part) (by kmk_part) ?_ (by with_unfolding_all rfl) (by kmk_pure) (by (show _ ≤ 16777216; omega))); intro D' h' F' N' l1; (try k_lt l1); (try k_sweep))) | ((with_reducible show wpAny _ _ (compareOp .NotIn (Value.int _ _) (Value.ref _)) _ _ _); (refine notin_ints (by k_asm) (by exact List.Mem.head _) (by with_reducible assumption) ?_)) | ((with_reducible show wpAny _ _ (call (Value.builtin "len") [Value.ref _]) _ _ _); k_dflt (refine len_rows (by k_asm) (by repeat (first | with_reducible assumption | exact List.Mem.head _ | refine memS ?_)) (by with_reducible assumption) ?_); intro _ _) | ((with_reducible show wpAny _ _ (subscriptTail _ _ (Value.ref _) (Value.int _ _)) _ _ _); k_dflt (first | (refine item_rows (by k_asm) (by repeat (first | with_reducible assumption | refine memS ?_)) (by with_reducible assumption) (by omega) (by omega) (by with_reducible assumption) ?_ (by with_unfolding_all rfl); intro T9 F9 tb9 ta9 tn9 u0 u1 u2 u3 u4 u5 c9 c9' hT9 hF9) | (refine item_tupleT (News.isTup (by k_asm) (by repeat (first | with_reducible assumption | refine memS ?_))) (by decide) (by decide) (by rfl) (by rfl) ?_) | (refine item_ints (by k_asm) (by repeat (first | with_reducible assumption | refine memS ?_)) hxs (by omega) (by (first | omega | (simp only [List.size_toArray, List.length_cons, List.length_nil]; omega))) (by (simp only [List.size_toArray, List.length_cons, List.length_nil]; omega)) ?_ (by with_unfolding_all rfl); intro x9 tx9 hx9) | (refine my_item (by k_asm) (by repeat (first | with_reducible assumption | refine memS ?_)) (by decide) (by decide) (by with_unfolding_all rfl) ?_ (by with_unfolding_all rfl))); (try simp only [Int.reduceToNat, List.getElem_toArray, List.getElem_cons_zero, List.getElem_cons_succ])) | ((with_reducible show wpAny _ _ (binaryOp .LShift (Value.int _ _) (Value.int _ _)) _ _ _); (refine my_lshift (by omega) (by omega) ?_); intro v9 ev9) | ((with_reducible show wpAny _ _ (binaryOp .Pow (Value.int 2 _) (Value.int _ _)) _ _ _); (refine my_powV (by omega) (by omega) ?_); intro v9 pv9 gv9) | ((with_reducible show wpAny _ _ (binaryOp .Mult (Value.int _ _) (Value.int _ _)) _ _ _); (first | refine my_mulS (by omega) (by omega) ?_ | with_reducible refine mul_two (by with_reducible assumption) (by omega) (by with_reducible assumption) (by with_reducible assumption) ?_ | refine my_mul (by omega) ?_)) | ((with_reducible show wpAny _ _ (binaryOp .Mod (Value.int _ _) (Value.int _ _)) _ _ _); (refine my_mod (by omega) ?_); intro r9 er9 r09 r19))) | (k_unfold; (try dsimp only)) | (k_end; wrow_close) | walk1 | (dsimp only; walk1) | (leave1; (try dsimp only))))
            (refine ⟨_, _, rfl, ?_⟩; intro G k; exact Jn.un11 (k g3 _ _ _ _ _ _ _ _ _ _ _ _ _ _ (by k_asm) (by k_asm) (by repeat (first | exact nm_nil | refine nm_cons (by with_unfolding_all rfl) ?_))) ⟨hsub, hrwm, hsub _ hdur, ⟨_, _, _, _, _, _, _, _, _, _, _, _, _, _, _, _, _, _, _, _, _, _, _, _, _, _, _, _, _, _, rfl, rfl⟩, rfl, hop.symm, T2.trans T3, K3, X3, P3, D3⟩)
    intro h7 tk7 hJ
    with_reducible refine hJ _ ?_
    clear hJ Jc
    rintro g3 m7 na rowB dA du' crb cdb st cm tn ti tp tz ts F7 N7 M7 hsub hrq7 hdu7 hreq hst hcm T3 B3 X3 P3 D3
    subst hst hcm
    with_reducible refine fr_fold F7 M7 ?_
    clear F7 NE
    intro mm F7
    have hcc7 := hsub _ (hin _ (.tail _ hcc5))
    clear hsk hrk hgs hgr hfs hfr hrq hd4 hfo' hcase isA lf0 lf1 lf2 lf3
    dsimp only [List.drop]
    let Jc : Heap → Prop := fun h' => ∀ G : Prop, (∀ (m' : Str → Option Value) (wi f wt : Int) (tn tp ts tw tf tt : Tok), Fr g3 L1 h' m' → News g3 L1 h' na → NmAre m' [("cells", .ref cc), ("rows", .ref rw), ("pile", .int (beN PB) tp), ("number", .int (beN a.bytes) tn), ("start", .int a.bg ts), ("wide", .int wi tw), ("factor", .int f tf), ("width", .int wt tt)] → 8 * (PB.length : Int) ≤ wi → wi ≤ 8 * (PB.length : Int) + 1 → 2 ^ (wi.toNat - 1) ≤ f → f < 2 ^ wi.toNat → wt = 8 * (a.ah + 98) → G) → G
    with_reducible refine Jn.ckpt 4 Jc ?_ ?_
    · dsimp only [List.take, List.drop]
      k_fold
      (repeat' (first | ((with_reducible refine Blk.into ?_); (first | ((with_reducible show wpAny _ _ (call (Value.type "list") [Value.ref _]) _ _ _); (k_dflt (refine copy_any (by k_asm) (by k_asm) (by repeat (first | with_reducible assumption | exact List.Mem.head _ | refine memS ?_)) (by (simp only [List.size_toArray, List.length_cons, List.length_nil]; omega)) ?_)); intro Dq cq hq Fq Nq lq1; (try k_lt lq1); (try k_sweep)) | ((with_reducible show wpAny _ _ (binaryOp .Add (Value.ref _) (Value.ref _)) _ _ _); (k_dflt (refine add_lit (by k_asm) (by k_asm) (by repeat (first | with_reducible assumption | exact List.Mem.head _ | refine memS ?_)) (by repeat (first | with_reducible assumption | exact List.Mem.head _ | refine memS ?_)) (by (simp only [List.length_cons, List.length_nil]; omega)) ?_)); intro Dq hq Fq Nq lq1; (simp only [List.cons_append, List.nil_append] at Nq); (try k_lt lq1); (try k_sweep)) | ((with_reducible show wpAny _ _ (compareOp .NotEq (Value.bool _) (Value.bool _)) _ _ _); (with_reducible refine ne_self ?_)) | ((with_reducible show wpAny _ _ (compareOp .NotEq (Value.ref _) (Value.ref _)) _ _ _); (refine ne_rows (by k_asm) (by with_reducible assumption) (by with_reducible assumption) (by with_reducible assumption) (by ((try simp only [units_deeper, units_in1, ktrTop, cLine_is]); omega)) ?_)) | (with_reducible ((with_reducible show wpAny _ _ (subscriptTail _ (Expr.Slice none (some _) none _) (Value.ref _) (Value.ref _)) _ _ _); k_dflt (refine' kmk_slice (by k_asm) (by k_asm) (by kmk_list) (by kmk_part) (by kmk_part) ?_ (by with_unfolding_all rfl) (by kmk_pure) (by (show _ ≤ 16777216; omega))); intro D' h' F' N' l1; (try k_lt l1); (try k_sweep))) | ((with_reducible show wpAny _ _ (compareOp .NotIn (Value.int _ _) (Value.ref _)) _ _ _); (refine notin_ints (by k_asm) (by exact List.Mem.head _) (by with_reducible assumption) ?_)) | ((with_reducible show wpAny _ _ (call (Value.builtin "len") [Value.ref _]) _ _ _); k_dflt (refine len_rows (by k_asm) (by repeat (first | with_reducible assumption | exact List.Mem.head _ | refine memS ?_)) (by with_reducible assumption) ?_); intro _ _) | ((with_reducible show wpAny _ _ (subscriptTail _ _ (Value.ref _) (Value.int _ _)) _ _ _); k_dflt (first | (refine item_rows (by k_asm) (by repeat (first | with_reducible assumption | refine memS ?_)) (by with_reducible assumption) (by omega) (by omega) (by with_reducible assumption) ?_ (by with_unfolding_all rfl); intro T9 F9 tb9 ta9 tn9 u0 u1 u2 u3 u4 u5 c9 c9' hT9 hF9) | (refine item_tupleT (News.isTup (by k_asm) (by repeat (first | with_reducible assumption | refine memS ?_))) (by decide) (by decide) (by rfl) (by rfl) ?_) | (refine item_ints (by k_asm) (by repeat (first | with_reducible assumption | refine memS ?_)) hxs (by omega) (by (first | omega | (simp only [List.size_toArray, List.length_cons, List.length_nil]; omega))) (by (simp only [List.size_toArray, List.length_cons, List.length_nil]; omega)) ?_ (by with_unfolding_all rfl); intro x9 tx9 hx9) | (refine my_item (by k_asm) (by repeat (first | with_reducible assumption | refine memS ?_)) (by decide) (by decide) (by with_unfolding_all rfl) ?_ (by with_unfolding_all rfl))); (try simp only [Int.reduceToNat, List.getElem_toArray, List.getElem_cons_zero, List.getElem_cons_succ])) | ((with_reducible show wpAny _ _ (binaryOp .LShift (Value.int _ _) (Value.int _ _)) _ _ _); (refine my_lshift (by omega) (by omega) ?_); intro v9 ev9) | ((with_reducible show wpAny _ _ (binaryOp .Pow (Value.int 2 _) (Value.int _ _)) _ _ _); (refine my_powV (by omega) (by omega) ?_); intro v9 pv9 gv9) | ((with_reducible show wpAny _ _ (binaryOp .Mult (Value.int _ _) (Value.int _ _)) _ _ _); (first | refine my_mulS (by omega) (by omega) ?_ | with_reducible refine mul_two (by with_reducible assumption) (by omega) (by with_reducible assumption) (by with_reducible assumption) ?_ | refine my_mul (by omega) ?_)) | ((with_reducible show wpAny _ _ (binaryOp .Mod (Value.int _ _) (Value.int _ _)) _ _ _); (refine my_mod (by omega) ?_); intro r9 er9 r09 r19))) | (k_unfold; (try dsimp only)) | (k_end; wrow_close) | walk1 | (dsimp only; walk1) | (leave1; (try dsimp only))))
      (refine ⟨_, _, rfl, ?_⟩; intro G k; exact Jn.un5 (k _ _ _ _ _ _ _ _ _ _ (by k_asm) (by k_asm) (by repeat (first | exact nm_nil | refine nm_cons (by with_unfolding_all rfl) ?_))) ⟨by omega, by omega, (fac_ok (hv := by with_reducible assumption) (hq := by with_reducible assumption) (hb := by omega) (hr := ⟨by with_reducible assumption, by with_reducible assumption⟩) (hf := rfl)).1, (fac_ok (hv := by with_reducible assumption) (hq := by with_reducible assumption) (hb := by omega) (hr := ⟨by with_reducible assumption, by with_reducible assumption⟩) (hf := rfl)).2, by omega⟩)
    intro h8 tk8 hJ
    with_reducible refine hJ _ ?_
    clear hJ Jc
    rintro m8 wi f wt tn tp ts tw tf tt F8 N8 M8 w0 w1 f0 f1 hwt
    subst hwt
    generalize hP : beN PB = P at M8
    generalize hY : beN a.bytes = Y at M8
    with_reducible refine fr_fold F8 M8 ?_
    clear F8 N7
    intro mm F8
    have fpos : 0 < f := by have := two_pow_pos (wi.toNat - 1); omega
    have ylen := bytes_len ok
    have hbP : (Builtin.Int.intBits P : Int) ≤ 8 * PB.length := by rw [← hP]; exact be_bits PB
    have hby : (Builtin.Int.intBits Y : Int) ≤ 8 * (a.ah + 98) := by rw [← hY, ← ylen]; exact be_bits a.bytes
    clear ylen
    have hbf := bits_le (a := f) (m := wi.toNat) (by omega) f1
    replace hP : Jn.Keep (beN PB = P) := hP
    replace hY : Jn.Keep (beN a.bytes = Y) := hY
    have hff : Jn.Keep (2 ^ (wi.toNat - 1) ≤ f ∧ f < 2 ^ wi.toNat) := ⟨f0, f1⟩
    clear f0 f1
    dsimp only [List.drop]
    (repeat' (first | ((with_reducible refine Blk.into ?_); (first | ((with_reducible show wpAny _ _ (call (Value.type "list") [Value.ref _]) _ _ _); (k_dflt (refine copy_any (by k_asm) (by k_asm) (by repeat (first | with_reducible assumption | exact List.Mem.head _ | refine memS ?_)) (by (simp only [List.size_toArray, List.length_cons, List.length_nil]; omega)) ?_)); intro Dq cq hq Fq Nq lq1; (try k_lt lq1); (try k_sweep)) | ((with_reducible show wpAny _ _ (binaryOp .Add (Value.ref _) (Value.ref _)) _ _ _); (k_dflt (refine add_lit (by k_asm) (by k_asm) (by repeat (first | with_reducible assumption | exact List.Mem.head _ | refine memS ?_)) (by repeat (first | with_reducible assumption | exact List.Mem.head _ | refine memS ?_)) (by (simp only [List.length_cons, List.length_nil]; omega)) ?_)); intro Dq hq Fq Nq lq1; (simp only [List.cons_append, List.nil_append] at Nq); (try k_lt lq1); (try k_sweep)) | ((with_reducible show wpAny _ _ (compareOp .NotEq (Value.bool _) (Value.bool _)) _ _ _); (with_reducible refine ne_self ?_)) | ((with_reducible show wpAny _ _ (compareOp .NotEq (Value.ref _) (Value.ref _)) _ _ _); (refine ne_rows (by k_asm) (by with_reducible assumption) (by with_reducible assumption) (by with_reducible assumption) (by ((try simp only [units_deeper, units_in1, ktrTop, cLine_is]); omega)) ?_)) | (with_reducible ((with_reducible show wpAny _ _ (subscriptTail _ (Expr.Slice none (some _) none _) (Value.ref _) (Value.ref _)) _ _ _); k_dflt (refine' kmk_slice (by k_asm) (by k_asm) (by kmk_list) (by kmk_part) (by kmk_part) ?_ (by with_unfolding_all rfl) (by kmk_pure) (by (show _ ≤ 16777216; omega))); intro D' h' F' N' l1; (try k_lt l1); (try k_sweep))) | ((with_reducible show wpAny _ _ (compareOp .NotIn (Value.int _ _) (Value.ref _)) _ _ _); (refine notin_ints (by k_asm) (by exact List.Mem.head _) (by with_reducible assumption) ?_)) | ((with_reducible show wpAny _ _ (call (Value.builtin "len") [Value.ref _]) _ _ _); k_dflt (refine len_rows (by k_asm) (by repeat (first | with_reducible assumption | exact List.Mem.head _ | refine memS ?_)) (by with_reducible assumption) ?_); intro _ _) | ((with_reducible show wpAny _ _ (subscriptTail _ _ (Value.ref _) (Value.int _ _)) _ _ _); k_dflt (first | (refine item_rows (by k_asm) (by repeat (first | with_reducible assumption | refine memS ?_)) (by with_reducible assumption) (by omega) (by omega) (by with_reducible assumption) ?_ (by with_unfolding_all rfl); intro T9 F9 tb9 ta9 tn9 u0 u1 u2 u3 u4 u5 c9 c9' hT9 hF9) | (refine item_tupleT (News.isTup (by k_asm) (by repeat (first | with_reducible assumption | refine memS ?_))) (by decide) (by decide) (by rfl) (by rfl) ?_) | (refine item_ints (by k_asm) (by repeat (first | with_reducible assumption | refine memS ?_)) hxs (by omega) (by (first | omega | (simp only [List.size_toArray, List.length_cons, List.length_nil]; omega))) (by (simp only [List.size_toArray, List.length_cons, List.length_nil]; omega)) ?_ (by with_unfolding_all rfl); intro x9 tx9 hx9) | (refine my_item (by k_asm) (by repeat (first | with_reducible assumption | refine memS ?_)) (by decide) (by decide) (by with_unfolding_all rfl) ?_ (by with_unfolding_all rfl))); (try simp only [Int.reduceToNat, List.getElem_toArray, List.getElem_cons_zero, List.getElem_cons_succ])) | ((with_reducible show wpAny _ _ (binaryOp .LShift (Value.int _ _) (Value.int _ _)) _ _ _); (refine my_lshift (by omega) (by omega) ?_); intro v9 ev9) | ((with_reducible show wpAny _ _ (binaryOp .Pow (Value.int 2 _) (Value.int _ _)) _ _ _); (refine my_powV (by omega) (by omega) ?_); intro v9 pv9 gv9) | ((with_reducible show wpAny _ _ (binaryOp .Mult (Value.int _ _) (Value.int _ _)) _ _ _); (first | refine my_mulS (by omega) (by omega) ?_ | with_reducible refine mul_two (by with_reducible assumption) (by omega) (by with_reducible assumption) (by with_reducible assumption) ?_ | refine my_mul (by omega) ?_)) | ((with_reducible show wpAny _ _ (binaryOp .Mod (Value.int _ _) (Value.int _ _)) _ _ _); (refine my_mod (by omega) ?_); intro r9 er9 r09 r19))) | (k_unfold; (try dsimp only)) | (k_end; wrow_close) | walk1 | (dsimp only; walk1) | (leave1; (try dsimp only))))
    refine Blk.into ?_
    have hpile := pile_be ha ok
    rw [hPB] at hpile
    have nn := be_nn PB
    have ny0 := be_nn a.bytes
    have ylen := bytes_len ok
    replace hP : beN PB = P := hP
    replace hY : beN a.bytes = Y := hY
    rw [hY] at hpile ny0
    rw [hP] at hpile nn
    clear hP hY
    have y1 : Y < 2 ^ (8 * (a.ah + 98)).toNat := by rw [show (8 * (a.ah + 98)).toNat = 8 * a.bytes.length by omega, pow_8]; exact ny0.2
    have ask := peel_ask (S := 8 * PB.length) (W := (8 * (a.ah + 98)).toNat) (wd := wi.toNat) hpile nn.1 (by rw [pow_8]; exact nn.2) (by omega) hff.1 hff.2 (by omega)
    rw [← ev9] at ask
    k_dflt (refine' use21 (div21_all 4) ?kn ?ka ?k1 ?k2 ?k3 ?k4 ?k5 ?kK ?kd ?ku ?_)
    case k1 => k_asm
    case k2 => k_asm
    case k3 => k_asm
    case k4 => k_asm
    case k5 => k_asm
    case kK => exact rfl
    case kd => simp only [depth_deeper, depth_in1, ktrTop]; omega
    case ku => simp only [units_deeper, units_in1, ktrTop]; omega
    case kn => clear ask y1 hpile nn ny0; omega
    case ka => rw [show (wi + 8 * (a.ah + 98)).toNat = wi.toNat + (8 * (a.ah + 98)).toNat by omega]; exact ask
    intro V P D' tV tP cD hD tkD eD hP0 hP1 F1 N1 l1
    rw [ev9] at eD hP1
    obtain ⟨eV, eP⟩ := peel_told hpile ny0.1 y1 fpos eD hP0 hP1
    subst eV eP
    replace l1 := allLt_of l1
    clear ask y1 hpile nn ny0 eD hP0 hP1
    (repeat' (first | ((with_reducible refine Blk.into ?_); (first | ((with_reducible show wpAny _ _ (call (Value.type "list") [Value.ref _]) _ _ _); (k_dflt (refine copy_any (by k_asm) (by k_asm) (by repeat (first | with_reducible assumption | exact List.Mem.head _ | refine memS ?_)) (by (simp only [List.size_toArray, List.length_cons, List.length_nil]; omega)) ?_)); intro Dq cq hq Fq Nq lq1; (try k_lt lq1); (try k_sweep)) | ((with_reducible show wpAny _ _ (binaryOp .Add (Value.ref _) (Value.ref _)) _ _ _); (k_dflt (refine add_lit (by k_asm) (by k_asm) (by repeat (first | with_reducible assumption | exact List.Mem.head _ | refine memS ?_)) (by repeat (first | with_reducible assumption | exact List.Mem.head _ | refine memS ?_)) (by (simp only [List.length_cons, List.length_nil]; omega)) ?_)); intro Dq hq Fq Nq lq1; (simp only [List.cons_append, List.nil_append] at Nq); (try k_lt lq1); (try k_sweep)) | ((with_reducible show wpAny _ _ (compareOp .NotEq (Value.bool _) (Value.bool _)) _ _ _); (with_reducible refine ne_self ?_)) | ((with_reducible show wpAny _ _ (compareOp .NotEq (Value.ref _) (Value.ref _)) _ _ _); (refine ne_rows (by k_asm) (by with_reducible assumption) (by with_reducible assumption) (by with_reducible assumption) (by ((try simp only [units_deeper, units_in1, ktrTop, cLine_is]); omega)) ?_)) | (with_reducible ((with_reducible show wpAny _ _ (subscriptTail _ (Expr.Slice none (some _) none _) (Value.ref _) (Value.ref _)) _ _ _); k_dflt (refine' kmk_slice (by k_asm) (by k_asm) (by kmk_list) (by kmk_part) (by kmk_part) ?_ (by with_unfolding_all rfl) (by kmk_pure) (by (show _ ≤ 16777216; omega))); intro D' h' F' N' l1; (try k_lt l1); (try k_sweep))) | ((with_reducible show wpAny _ _ (compareOp .NotIn (Value.int _ _) (Value.ref _)) _ _ _); (refine notin_ints (by k_asm) (by exact List.Mem.head _) (by with_reducible assumption) ?_)) | ((with_reducible show wpAny _ _ (call (Value.builtin "len") [Value.ref _]) _ _ _); k_dflt (refine len_rows (by k_asm) (by repeat (first | with_reducible assumption | exact List.Mem.head _ | refine memS ?_)) (by with_reducible assumption) ?_); intro _ _) | ((with_reducible show wpAny _ _ (subscriptTail _ _ (Value.ref _) (Value.int _ _)) _ _ _); k_dflt (first | (refine item_rows (by k_asm) (by repeat (first | with_reducible assumption | refine memS ?_)) (by with_reducible assumption) (by omega) (by omega) (by with_reducible assumption) ?_ (by with_unfolding_all rfl); intro T9 F9 tb9 ta9 tn9 u0 u1 u2 u3 u4 u5 c9 c9' hT9 hF9) | (refine item_tupleT (News.isTup (by k_asm) (by repeat (first | with_reducible assumption | refine memS ?_))) (by decide) (by decide) (by rfl) (by rfl) ?_) | (refine item_ints (by k_asm) (by repeat (first | with_reducible assumption | refine memS ?_)) hxs (by omega) (by (first | omega | (simp only [List.size_toArray, List.length_cons, List.length_nil]; omega))) (by (simp only [List.size_toArray, List.length_cons, List.length_nil]; omega)) ?_ (by with_unfolding_all rfl); intro x9 tx9 hx9) | (refine my_item (by k_asm) (by repeat (first | with_reducible assumption | refine memS ?_)) (by decide) (by decide) (by with_unfolding_all rfl) ?_ (by with_unfolding_all rfl))); (try simp only [Int.reduceToNat, List.getElem_toArray, List.getElem_cons_zero, List.getElem_cons_succ])) | ((with_reducible show wpAny _ _ (binaryOp .LShift (Value.int _ _) (Value.int _ _)) _ _ _); (refine my_lshift (by omega) (by omega) ?_); intro v9 ev9) | ((with_reducible show wpAny _ _ (binaryOp .Pow (Value.int 2 _) (Value.int _ _)) _ _ _); (refine my_powV (by omega) (by omega) ?_); intro v9 pv9 gv9) | ((with_reducible show wpAny _ _ (binaryOp .Mult (Value.int _ _) (Value.int _ _)) _ _ _); (first | refine my_mulS (by omega) (by omega) ?_ | with_reducible refine mul_two (by with_reducible assumption) (by omega) (by with_reducible assumption) (by with_reducible assumption) ?_ | refine my_mul (by omega) ?_)) | ((with_reducible show wpAny _ _ (binaryOp .Mod (Value.int _ _) (Value.int _ _)) _ _ _); (refine my_mod (by omega) ?_); intro r9 er9 r09 r19))) | (k_unfold; (try dsimp only)) | (k_end; wrow_close) | walk1 | (dsimp only; walk1) | (leave1; (try dsimp only))))
    · exact absurd rfl (by assumption)
    · have OO := offL_off (all := na) (news := nx) (as := [I, 139]) (fun q hq => hsub _ (hin _ (.tail _ (S5.sub _ (S4.sub _ hq))))) (ine_cons (fun q hq => hIn q (S4.sub _ hq)) (ine_cons (off_one S (a := 139) (by simp)) ine_nil))
      obtain ⟨oc1, oc2, vv1, vv2, tt1, tt2, mm1, mm2, g1, g2, g3', g4⟩ := hH
      have kf : ∀ (k : Addr) (oc : Obj), (k, oc) ∈ Sl → (k, oc) ∈ offL na [I, 139] := fun k oc hk => offL_mem (hsub _ (hSr _ hk)) (i1_cons ((hS1 _ hk).2.2.elim (fun h => hI5 _ h) fun h => h _ (.head _)) (i1_cons (hS1 _ hk).2.1 i1_nil))
      refine ⟨g3, _, _, _, (139, tabObj (hitTb k1 k2)) :: offL na [I, 139], rfl, ⟨T3, B3, X3, P3, D3⟩, by k_asm, cb_drop ‹News g3 L1 _ ((D', _) :: na)› (List.forall_mem_cons.mpr ⟨.tail _ (hsub _ (hin _ (.head _))), List.forall_mem_cons.mpr ⟨.tail _ (hsub _ h139r), fun q hq => .tail _ (offL_sub q hq)⟩⟩), List.forall_mem_cons.mpr ⟨hI1, fun q hq => OO.off q hq _ (.head _)⟩, hitTb k1 k2, offL na [I, 139], _, _, _, _, rfl, by repeat (first | exact nm_nil | refine nm_cons (by with_unfolding_all rfl) ?_), by rw [show 4 - (j + 1) = i by omega], by rw [show 4 - (j + 1) = i by omega]; exact K.bgs i a ha, .inr ⟨k1, k2, rfl, oc1, oc2, vv1, vv2, tt1, tt2, kf _ _ mm1, kf _ _ mm2, g1, g2, g3', g4⟩, OO.sub, fun q hq y hy => OO.off q hq y (.tail _ hy)⟩
end
end Mine02
end
namespace Mine02
theorem rest23 : True ∧ True := by w_top off; first | (walk1; all_goals trivial) | exact ⟨trivial, trivial⟩
end Mine02

section
namespace Mine02
open DivM Lp Bm

theorem stLw1 {M A Q E s y0 y1 y2 y3 y4} (h : Blk (wpAny M A (subscriptTail y0 y1 (Value.ref y2) (Value.int y3 y4)) Q E s)) : wpAny M A (subscriptTail y0 y1 (Value.ref y2) (Value.int y3 y4)) Q E s := h
local macro_rules | `(tactic| walk_at "subscriptTail") => `(tactic| with_reducible refine stLw1 ?_)
local macro_rules | `(tactic| walk_at "call ref") => `(tactic| refine Blk.out ?_)
local macro_rules | `(tactic| walk_at "eval ListComp") => `(tactic| refine Blk.out ?_)
local macro_rules | `(tactic| walk_at "CompSrc") => `(tactic| refine Blk.out ?_)
theorem ints_bits {vs : List Value} {ns : List Int} (hI : IntsAre vs ns) (h : (PyData.list (List.map PyData.int ns)).layable0 = true) : ∀ v ∈ vs, IntB (2 ^ 20) v := by
  have key : ∀ n ∈ ns, (Builtin.Int.intBits n : Int) ≤ 2 ^ 20 := fun n hn => by
    have := PyData.bits_item_of_ints h hn
    omega
  clear h
  induction hI with
  | nil => intro v hv; cases hv
  | cons n t r ih =>
    intro v hv
    rcases List.mem_cons.mp hv with rfl | hv
    · exact ⟨n, t, rfl, key n (by simp)⟩
    · exact ih (fun m hm => key m (by simp [hm])) v hv
theorem ints_len {vs : List Value} {ns : List Int} (hI : IntsAre vs ns) : vs.length = ns.length := by
  induction hI with
  | nil => rfl
  | cons n t r ih => simp [ih]
def IntsN (B : Int) (i : Nat) (ys : List Value) : Prop := ys.length = i ∧ ∀ v ∈ ys, IntB B v
theorem ints_snoc {B : Int} {i : Nat} {ys : List Value} {y : Int} {t : Tok} (h : IntsN B i ys) (hy : (Builtin.Int.intBits y : Int) ≤ B) : IntsN B (i + 1) (ys ++ [Value.int y t]) := by
  refine ⟨by simp [h.1], fun v hv => ?_⟩
  rcases List.mem_append.mp hv with hv | hv
  · exact h.2 v hv
  · rw [List.mem_singleton.mp hv]
    exact ⟨y, t, rfl, hy⟩

theorem pick_mem {its : Array Value} {lo hi st : Option Int} {v : Value} (h : v ∈ (slicePick its lo hi st).toList) : v ∈ its.toList := by
  unfold slicePick at h
  obtain ⟨j, _, e⟩ := List.mem_filterMap.mp h
  rw [← Array.getElem?_toList] at e
  exact List.mem_of_getElem? e
theorem ints_some {B : Int} : ∀ {us : List Value}, (∀ v ∈ us, IntB B v) → ∃ ms, IntsAre us ms ∧ ∀ n ∈ ms, (Builtin.Int.intBits n : Int) ≤ B
  | [], _ => ⟨[], .nil, fun _ h => nomatch h⟩
  | v :: us, h => by
    obtain ⟨x, t, rfl, hx⟩ := h v (.head _)
    obtain ⟨ms, hi, hb⟩ := ints_some fun v hv => h v (.tail _ hv)
    exact ⟨x :: ms, .cons x t hi, fun n hn => by
      rcases List.mem_cons.mp hn with rfl | hn
      · exact hx
      · exact hb n hn⟩
theorem sum_abs {B : Nat} : ∀ {ms : List Int}, (∀ n ∈ ms, (Builtin.Int.intBits n : Int) ≤ B) → -((ms.length : Int) * 2 ^ B) ≤ ms.sum ∧ ms.sum ≤ (ms.length : Int) * 2 ^ B
  | [], _ => by simp
  | n :: ms, h => by
    have ih := sum_abs (ms := ms) fun x hx => h x (.tail _ hx)
    have hn := bits_of n
    have hp : (2 : Int) ^ Builtin.Int.intBits n ≤ 2 ^ B := by exact_mod_cast Nat.pow_le_pow_right (by decide) (by have := h n (.head _); omega : Builtin.Int.intBits n ≤ B)
    rw [List.sum_cons, List.length_cons, Int.natCast_add, Int.add_mul]
    omega
theorem sum_bits {B : Int} (hB : 0 ≤ B) {ms : List Int} (h : ∀ n ∈ ms, (Builtin.Int.intBits n : Int) ≤ B) (hz : ms.length ≤ 63) : (Builtin.Int.intBits ms.sum : Int) ≤ B + 6 := by
  obtain ⟨n, rfl⟩ := Int.eq_ofNat_of_zero_le hB
  have a := sum_abs h
  have p := two_pow_pos n
  have q : (ms.length : Int) * 2 ^ n ≤ 63 * 2 ^ n := Int.mul_le_mul_of_nonneg_right (by omega) (by omega)
  have e : (2 : Int) ^ (n + 6) = 64 * 2 ^ n := by rw [Int.pow_add]; omega
  have := bits_abs (a := ms.sum) (m := n + 6) (by rw [e]; omega) (by rw [e]; omega)
  omega
section
variable {prog : Program} {w : World} {A : Around} {E : Value → Shared → Prop} {s : Shared} {h₀ : Heap} {L : Addr} {m : Str → Option Value} {news : List (Addr × Obj)} {Q : Value → Shared → Prop}
theorem slice3_ints {B : Int} {value slice : Expr} {l : Addr} {vs : List Value} {vl vu vk : Value} {lo hi st : Option Int} {ops : List Value} (F : Fr h₀ L s.heap m) (N : News h₀ L s.heap news) (hl : h₀.IsList l vs.toArray) (hb : ∀ v ∈ vs, IntB B v) (hz : vs.length ≤ 63) (pl : IsPart vl lo) (pu : IsPart vu hi) (pk : IsPart vk st) (h0 : st ≠ some 0)
    (h : ∀ D us ms h', Fr h₀ L h' m → News h₀ L h' ((D, listOf (List.toArray us) 0) :: news) → (∀ p ∈ news, p.1 < D) → IntsAre us ms → (∀ n ∈ ms, (Builtin.Int.intBits n : Int) ≤ B) → ms.length ≤ 63 → Q (.ref D) { s with heap := h' })
    (hs : subscripted slice false (.ref l) (.ref s.heap.objs.size) = operate ops (getItem (.ref l) (.ref s.heap.objs.size))) (ht : ∀ r, letTemporaryGo value (.ref l) r = pure ()) :
    wpAny (model prog w) A (subscriptTail value slice (.ref l) (.ref s.heap.objs.size)) Q E { s with heap := s.heap.push { cls := .type "slice", data := .fields #[vl, vu, vk] } } := by
  obtain ⟨ms, hi', hb'⟩ := ints_some (us := (slicePick vs.toArray lo hi st).toList) fun v hv => hb v (pick_mem hv)
  have hl' : s.heap.IsList l vs.toArray := by
    obtain ⟨o, e, r⟩ := hl
    exact ⟨o, F.keep _ _ e, r⟩
  have hz' : ms.length ≤ 63 := by
    have := slicePick_size_le vs.toArray lo hi st
    rw [← hi'.length, Array.length_toList]
    simp only [List.size_toArray] at this
    omega
  refine slice_list3 F N hl' pl pu pk h0 (fun h' F' N' => h _ _ ms h' F' ?_ (fun p hp => Nat.lt_succ_of_lt (Heap.lt_size (N p hp).1)) hi' hb' hz') hs ht (by rw [sizeLine_eq]; simp only [List.size_toArray]; omega)
  rw [Array.toArray_toList]
  exact N'
theorem sum_ints {B : Int} {l : Addr} {us : List Value} {ms : List Int} {c : Nat} (hh : A.handled = none) (F : Fr h₀ L s.heap m) (N : News h₀ L s.heap news) (hm : (l, listOf (List.toArray us) c) ∈ news) (hi : IntsAre us ms) (hb : ∀ n ∈ ms, (Builtin.Int.intBits n : Int) ≤ B) (hz : ms.length ≤ 63)
    (h : ∀ x h' tk t', (0 ≤ B → (Builtin.Int.intBits x : Int) ≤ B + 6) → Fr h₀ L h' m → News h₀ L h' news → Q (.int x t') { s with heap := h', toks := tk }) :
    wpAny (model prog w) A (call (.builtin "sum") [.ref l]) Q E s :=
  sumK hh F N ⟨_, (N _ hm).1, rfl, _, rfl⟩ hi fun h' tk t' F' N' => h _ h' tk t' (fun hB => sum_bits hB hb hz) F' N'
end
local macro_rules | `(tactic| walk_at "subscriptTail Name Name ref int") => `(tactic| with_reducible refine stLw1 ?_)
theorem stLw2 {M A Q E s y0 y1 y2 y3 y4 y5 y6} (h : Blk (wpAny M A (subscriptTail y0 (Expr.Slice y1 y2 y3 y4) (Value.ref y5) (Value.ref y6)) Q E s)) : wpAny M A (subscriptTail y0 (Expr.Slice y1 y2 y3 y4) (Value.ref y5) (Value.ref y6)) Q E s := h
local macro_rules | `(tactic| walk_at "subscriptTail Name Slice ref ref") => `(tactic| with_reducible refine stLw2 ?_)
local macro_rules | `(tactic| walk_at "call builtin:sum") => `(tactic| refine Blk.out ?_)
theorem law_holds : PySem.Challenge.rw_kl0458_02.Holds := by
  refine hd ?_
  k_go0
  rename_i oo os d0 ds X0 XX TT KK FF NN l0
  rename Shared => s1
  rename World => ww
  rename List Int => ns
  rename List Value => vs
  rename IntsAre _ _ => hI
  rename PyData.layable0 _ = true => hLay
  rename ¬ _ < _ => hc1
  replace d0 := d0.trans (by with_unfolding_all rfl : _ = Data.cell none)
  replace ds := ds.trans (by with_unfolding_all rfl : _ = Data.cell (some (.ref _)))
  have hb := ints_bits hI hLay
  have hl := ints_len hI
  have hS := lifted
  have hC := codeHd
  clear lifted codeHd X0
  (repeat' (first | ((with_reducible refine Blk.into ?_); (first | ((with_reducible show wpAny _ _ (subscriptTail _ (Expr.Slice _ _ _ _) (Value.ref _) (Value.ref _)) _ _ _); k_dflt (refine' slice3_ints ?slF_41 ?slN_41 hS hb ?slz_41 ?pl_41 ?pu_41 ?pk_41 ?p0_41 ?_ ?hs_41 ?ht_41; (case slF_41 => k_asm); (case slN_41 => k_asm); (case slz_41 => omega); (case pl_41 => constructor); (case pu_41 => constructor); (case pk_41 => constructor); (case p0_41 => decide); (case hs_41 => with_unfolding_all rfl); (case ht_41 => (intro _; with_unfolding_all rfl))); intro Dq us ms hq Fq Nq lq1 iq1 bq1 zq1) | ((with_reducible show wpAny _ _ (call (Value.builtin "sum") [Value.ref _]) _ _ _); k_dflt (refine sum_ints (by rfl) (by k_asm) (by k_asm) (List.Mem.head _) (by with_reducible assumption) (by with_reducible assumption) (by with_reducible assumption) ?_); intro sx hq tkq tq bsx Fq Nq) | ((with_reducible show wpAny _ _ (subscriptTail _ _ (Value.ref _) (Value.int _ _)) _ _ _); k_dflt (first | (refine item_ints (M := 20) (by k_asm) (by repeat (first | with_reducible assumption | exact List.Mem.head _ | refine memS ?_)) (by intro v hv; simp only [List.mem_cons, List.not_mem_nil, or_false] at hv; rcases hv with h | h | h | h <;> exact ⟨_, _, h, by decide⟩) (by omega) (by (first | omega | (simp only [List.size_toArray, List.length_cons, List.length_nil]; omega))) (by (simp only [List.size_toArray, List.length_cons, List.length_nil]; omega)) ?_ (by with_unfolding_all rfl); intro x9 tx9 hx9)); (try simp only [Int.reduceToNat, List.getElem_toArray, List.getElem_cons_zero, List.getElem_cons_succ])))) | (k_unfold; (try dsimp only)) | (k_end; wrow_close) | walk1 | (dsimp only; walk1) | (leave1; (try dsimp only))))
  refine Blk.into ?_
  k_dflt (refine LCg.ListComp_U (F₀ := by k_asm) (by with_unfolding_all rfl) (by decide) (by rfl) (by decide) (by rfl) ?_)
  (repeat' (first | ((with_reducible refine Blk.into ?_); (first | ((with_reducible show wpAny _ _ (subscriptTail _ (Expr.Slice _ _ _ _) (Value.ref _) (Value.ref _)) _ _ _); k_dflt (refine' slice3_ints ?slF_42 ?slN_42 hS hb ?slz_42 ?pl_42 ?pu_42 ?pk_42 ?p0_42 ?_ ?hs_42 ?ht_42; (case slF_42 => k_asm); (case slN_42 => k_asm); (case slz_42 => omega); (case pl_42 => constructor); (case pu_42 => constructor); (case pk_42 => constructor); (case p0_42 => decide); (case hs_42 => with_unfolding_all rfl); (case ht_42 => (intro _; with_unfolding_all rfl))); intro Dq us ms hq Fq Nq lq1 iq1 bq1 zq1) | ((with_reducible show wpAny _ _ (call (Value.builtin "sum") [Value.ref _]) _ _ _); k_dflt (refine sum_ints (by rfl) (by k_asm) (by k_asm) (List.Mem.head _) (by with_reducible assumption) (by with_reducible assumption) (by with_reducible assumption) ?_); intro sx hq tkq tq bsx Fq Nq) | ((with_reducible show wpAny _ _ (subscriptTail _ _ (Value.ref _) (Value.int _ _)) _ _ _); k_dflt (first | (refine item_ints (M := 20) (by k_asm) (by repeat (first | with_reducible assumption | exact List.Mem.head _ | refine memS ?_)) (by intro v hv; simp only [List.mem_cons, List.not_mem_nil, or_false] at hv; rcases hv with h | h | h | h <;> exact ⟨_, _, h, by decide⟩) (by omega) (by (first | omega | (simp only [List.size_toArray, List.length_cons, List.length_nil]; omega))) (by (simp only [List.size_toArray, List.length_cons, List.length_nil]; omega)) ?_ (by with_unfolding_all rfl); intro x9 tx9 hx9)); (try simp only [Int.reduceToNat, List.getElem_toArray, List.getElem_cons_zero, List.getElem_cons_succ])))) | (k_unfold; (try dsimp only)) | (k_end; wrow_close) | walk1 | (dsimp only; walk1) | (leave1; (try dsimp only))))
  refine Blk.into ?_
  refine Cp.range_all (n := 4) (fun i ys => IntsN (2 ^ 20 + 10) i ys) (by rfl) (by k_asm) (by k_asm) (by assumption) (by rfl) (by rfl) (by decide) ⟨rfl, fun v hv => nomatch hv⟩ ?_ ?_
  · intro g' i2 ys tv hi2 hj I2 oI C oC D m₂ h tk E' hC2 hx F' N' off' ne'
    obtain ⟨kk, hkk⟩ : ∃ kk : Int, kk = 0 + (i2 : Int) := ⟨_, rfl⟩
    rw [← hkk] at hx
    (repeat' (first | ((with_reducible refine Blk.into ?_); (first | ((with_reducible show wpAny _ _ (subscriptTail _ (Expr.Slice _ _ _ _) (Value.ref _) (Value.ref _)) _ _ _); k_dflt (refine' slice3_ints ?slF_43 ?slN_43 hS hb ?slz_43 ?pl_43 ?pu_43 ?pk_43 ?p0_43 ?_ ?hs_43 ?ht_43; (case slF_43 => k_asm); (case slN_43 => k_asm); (case slz_43 => omega); (case pl_43 => constructor); (case pu_43 => constructor); (case pk_43 => constructor); (case p0_43 => decide); (case hs_43 => with_unfolding_all rfl); (case ht_43 => (intro _; with_unfolding_all rfl))); intro Dq us ms hq Fq Nq lq1 iq1 bq1 zq1) | ((with_reducible show wpAny _ _ (call (Value.builtin "sum") [Value.ref _]) _ _ _); k_dflt (refine sum_ints (by rfl) (by k_asm) (by k_asm) (List.Mem.head _) (by with_reducible assumption) (by with_reducible assumption) (by with_reducible assumption) ?_); intro sx hq tkq tq bsx Fq Nq) | ((with_reducible show wpAny _ _ (subscriptTail _ _ (Value.ref _) (Value.int _ _)) _ _ _); k_dflt (first | (refine item_ints (M := 20) (by k_asm) (by repeat (first | with_reducible assumption | exact List.Mem.head _ | refine memS ?_)) (by intro v hv; simp only [List.mem_cons, List.not_mem_nil, or_false] at hv; rcases hv with h | h | h | h <;> exact ⟨_, _, h, by decide⟩) (by omega) (by (first | omega | (simp only [List.size_toArray, List.length_cons, List.length_nil]; omega))) (by (simp only [List.size_toArray, List.length_cons, List.length_nil]; omega)) ?_ (by with_unfolding_all rfl); intro x9 tx9 hx9)); (try simp only [Int.reduceToNat, List.getElem_toArray, List.getElem_cons_zero, List.getElem_cons_succ])))) | (k_unfold; (try dsimp only)) | (k_end; wrow_close) | walk1 | (dsimp only; walk1) | (leave1; (try dsimp only))))
    exact LCg.CompEnd.intro (by k_asm) (by k_asm) _ (fun p hp => .tail _ hp) off' True.intro ⟨rfl, ints_snoc hj (by have e1 := bits_add (a := x9) (b := sx) (B := 2 ^ 20 + 6) (by omega) (bsx (by omega)); omega)⟩
  · intro g' ys hj
    unfold LCg.FinE
    intro D h' tk' F' N' o1'
    simp only [LCg.Off1] at o1'
    obtain ⟨v0, v1, v2, v3, rfl⟩ : ∃ v0 v1 v2 v3, ys = [v0, v1, v2, v3] := by
      match ys, hj.1 with
      | [v0, v1, v2, v3], _ => exact ⟨v0, v1, v2, v3, rfl⟩
    have hxs := hj.2
    (repeat' (first | ((with_reducible refine Blk.into ?_); (first | ((with_reducible show wpAny _ _ (subscriptTail _ (Expr.Slice _ _ _ _) (Value.ref _) (Value.ref _)) _ _ _); k_dflt (refine' slice3_ints ?slF_44 ?slN_44 hS hb ?slz_44 ?pl_44 ?pu_44 ?pk_44 ?p0_44 ?_ ?hs_44 ?ht_44; (case slF_44 => k_asm); (case slN_44 => k_asm); (case slz_44 => omega); (case pl_44 => constructor); (case pu_44 => constructor); (case pk_44 => constructor); (case p0_44 => decide); (case hs_44 => with_unfolding_all rfl); (case ht_44 => (intro _; with_unfolding_all rfl))); intro Dq us ms hq Fq Nq lq1 iq1 bq1 zq1) | ((with_reducible show wpAny _ _ (call (Value.builtin "sum") [Value.ref _]) _ _ _); k_dflt (refine sum_ints (by rfl) (by k_asm) (by k_asm) (List.Mem.head _) (by with_reducible assumption) (by with_reducible assumption) (by with_reducible assumption) ?_); intro sx hq tkq tq bsx Fq Nq) | ((with_reducible show wpAny _ _ (subscriptTail _ _ (Value.ref _) (Value.int _ _)) _ _ _); k_dflt (first | (refine item_ints (M := 20) (by k_asm) (by repeat (first | with_reducible assumption | exact List.Mem.head _ | refine memS ?_)) (by intro v hv; simp only [List.mem_cons, List.not_mem_nil, or_false] at hv; rcases hv with h | h | h | h <;> exact ⟨_, _, h, by decide⟩) (by omega) (by (first | omega | (simp only [List.size_toArray, List.length_cons, List.length_nil]; omega))) (by (simp only [List.size_toArray, List.length_cons, List.length_nil]; omega)) ?_ (by with_unfolding_all rfl); intro x9 tx9 hx9)); (try simp only [Int.reduceToNat, List.getElem_toArray, List.getElem_cons_zero, List.getElem_cons_succ])))) | (k_unfold; (try dsimp only)) | (k_end; wrow_close) | walk1 | (dsimp only; walk1) | (leave1; (try dsimp only))))
    refine Blk.into ?_
    rename Fr _ _ h' _ => F9
    rename News _ _ h' _ => N9
    obtain ⟨e1, e2, e3, n1, n2, n3, N8⟩ : ∃ e1 e2 e3 : Addr × Obj, @Ne Nat e1.1 139 ∧ @Ne Nat e2.1 139 ∧ @Ne Nat e3.1 139 ∧ News (ghostOf s1.heap [(143, 139)]) s1.heap.objs.size h' ((139, tabObj #[]) :: [(D, LCg.lst [v0, v1, v2, v3]), e1, e2, e3]) := ⟨_, _, _, by k_ne, by k_ne, by k_ne, rot4 N9⟩
    have n0 : @Ne Nat D 139 := by k_ne
    clear N9
    k_dflt (refine' peel_call (M := 2 ^ 20 + 10) (news := [(D, LCg.lst [v0, v1, v2, v3]), e1, e2, e3]) ?hM hxs XX TT (List.Mem.head _) hC ?hn139 ?H ?hret)
    case hM => decide
    case H =>
      refine ⟨?B, ?F, ?X, ?N, ?T, ?K, ?D, ?U⟩
      case B => exact KK
      case F => exact F9
      case X => exact XX
      case N => exact N8
      case T => exact TT
      case K => exact rfl
      case D => decide
      case U => decide
    case hn139 => exact List.forall_mem_cons.mpr ⟨n0, List.forall_mem_cons.mpr ⟨n1, List.forall_mem_cons.mpr ⟨n2, List.forall_mem_cons.mpr ⟨n3, List.forall_mem_nil _⟩⟩⟩⟩
    case hret =>
      intro h9 tk9 tb nx F9 N9
      clear N8
      (repeat' (first | ((with_reducible refine Blk.into ?_); (first | ((with_reducible show wpAny _ _ (subscriptTail _ (Expr.Slice _ _ _ _) (Value.ref _) (Value.ref _)) _ _ _); k_dflt (refine' slice3_ints ?slF_45 ?slN_45 hS hb ?slz_45 ?pl_45 ?pu_45 ?pk_45 ?p0_45 ?_ ?hs_45 ?ht_45; (case slF_45 => k_asm); (case slN_45 => k_asm); (case slz_45 => omega); (case pl_45 => constructor); (case pu_45 => constructor); (case pk_45 => constructor); (case p0_45 => decide); (case hs_45 => with_unfolding_all rfl); (case ht_45 => (intro _; with_unfolding_all rfl))); intro Dq us ms hq Fq Nq lq1 iq1 bq1 zq1) | ((with_reducible show wpAny _ _ (call (Value.builtin "sum") [Value.ref _]) _ _ _); k_dflt (refine sum_ints (by rfl) (by k_asm) (by k_asm) (List.Mem.head _) (by with_reducible assumption) (by with_reducible assumption) (by with_reducible assumption) ?_); intro sx hq tkq tq bsx Fq Nq) | ((with_reducible show wpAny _ _ (subscriptTail _ _ (Value.ref _) (Value.int _ _)) _ _ _); k_dflt (first | (refine item_ints (M := 20) (by k_asm) (by repeat (first | with_reducible assumption | exact List.Mem.head _ | refine memS ?_)) (by intro v hv; simp only [List.mem_cons, List.not_mem_nil, or_false] at hv; rcases hv with h | h | h | h <;> exact ⟨_, _, h, by decide⟩) (by omega) (by (first | omega | (simp only [List.size_toArray, List.length_cons, List.length_nil]; omega))) (by (simp only [List.size_toArray, List.length_cons, List.length_nil]; omega)) ?_ (by with_unfolding_all rfl); intro x9 tx9 hx9)); (try simp only [Int.reduceToNat, List.getElem_toArray, List.getElem_cons_zero, List.getElem_cons_succ])))) | (k_unfold; (try dsimp only)) | (k_end; wrow_close) | walk1 | (dsimp only; walk1) | (leave1; (try dsimp only))))
end Mine02
end
namespace Mine02
theorem rest24 : True ∧ True := by w_top off; first | (walk1; all_goals trivial) | exact ⟨trivial, trivial⟩
end Mine02

theorem PySem.Challenge.cw_kl0458_02_holds : PySem.Challenge.rw_kl0458_02.Holds :=
  Mine02.law_holds
