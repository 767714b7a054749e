import PyProof.Rows.All
import Wide.All
import OpenK.AllK
import Wide.FinOn
import PySem.Challenge.RW_kl0458_01
set_option compiler.extract_closed false
set_option Elab.async false
set_option maxRecDepth 100000
set_option maxHeartbeats 8000000
open PySem PySem.W PyProof.Rows
namespace Cm
section
variable {M : Model} {A : Around} {E : Value → Shared → Prop} {h h₀ : Heap} {gn : Array GenState} {dr : Drawn} {tk : Nat} {os : OsState} {L a : Addr} {m : Str → Option Value} {cn : Str} {cs : Scope} {ccd : Value} {cl : List (Str × Addr)}
  {x : Str} {v : Value} {Q : Unit → Shared → Prop} {news : List (Addr × Obj)}
/-- a store in the frame: the names' map becomes a let variable, the tokens a variable -/
theorem storeL (F : Fr h₀ L h m) (N : News h₀ L h news)
    (k : let m' : Str → Option Value := fun y => if y = x then some v else m y; ∀ h' tk', Fr h₀ L h' m' → News h₀ L h' news → Q () ⟨h', gn, dr, tk', os⟩)
    (hk : cs.kind = .function) (hx : (envX cn cs L a ccd cl).kindOf x = some .local) : wpAny M A (storeName (envX cn cs L a ccd cl) x v) Q E ⟨h, gn, dr, tk, os⟩ :=
  storeX_L (s := ⟨h, gn, dr, tk, os⟩) F N (fun h' F' N' => k h' _ F' N') hk hx
end
section
variable {a d : Nat} {P A B C D E F G : Prop}
theorem nl1 (h : a < d ∧ P) : a ≠ d := Nat.ne_of_lt h.1
theorem ng1 (h : a < d ∧ P) : d ≠ a := Nat.ne_of_gt h.1
theorem nl2 (h : A ∧ a < d ∧ P) : a ≠ d := Nat.ne_of_lt h.2.1
theorem ng2 (h : A ∧ a < d ∧ P) : d ≠ a := Nat.ne_of_gt h.2.1
theorem nl3 (h : A ∧ B ∧ a < d ∧ P) : a ≠ d := Nat.ne_of_lt h.2.2.1
theorem ng3 (h : A ∧ B ∧ a < d ∧ P) : d ≠ a := Nat.ne_of_gt h.2.2.1
theorem nl4 (h : A ∧ B ∧ C ∧ a < d ∧ P) : a ≠ d := Nat.ne_of_lt h.2.2.2.1
theorem ng4 (h : A ∧ B ∧ C ∧ a < d ∧ P) : d ≠ a := Nat.ne_of_gt h.2.2.2.1
theorem nl5 (h : A ∧ B ∧ C ∧ D ∧ a < d ∧ P) : a ≠ d := Nat.ne_of_lt h.2.2.2.2.1
theorem ng5 (h : A ∧ B ∧ C ∧ D ∧ a < d ∧ P) : d ≠ a := Nat.ne_of_gt h.2.2.2.2.1
theorem nl6 (h : A ∧ B ∧ C ∧ D ∧ E ∧ a < d ∧ P) : a ≠ d := Nat.ne_of_lt h.2.2.2.2.2.1
theorem ng6 (h : A ∧ B ∧ C ∧ D ∧ E ∧ a < d ∧ P) : d ≠ a := Nat.ne_of_gt h.2.2.2.2.2.1
theorem nl7 (h : A ∧ B ∧ C ∧ D ∧ E ∧ F ∧ a < d ∧ P) : a ≠ d := Nat.ne_of_lt h.2.2.2.2.2.2.1
theorem ng7 (h : A ∧ B ∧ C ∧ D ∧ E ∧ F ∧ a < d ∧ P) : d ≠ a := Nat.ne_of_gt h.2.2.2.2.2.2.1
end
theorem allLt_ne {d d' : Nat} {l : List (Addr × Obj)} (h : AllLt d l) (hd : d ≤ d') : ∀ p ∈ l, p.1 ≠ d' := by
  induction l with
  | nil => intro p hp; cases hp
  | cons q r ih =>
    intro p hp
    rcases List.mem_cons.mp hp with rfl | hp
    · exact Nat.ne_of_lt (Nat.lt_of_lt_of_le h.1 hd)
    · exact ih h.2 p hp
section
variable {a d : Nat} {P A B C D E F G : Prop}
theorem nn1 (h : a ≠ d ∧ P) : a ≠ d := h.1
theorem nm1 (h : a ≠ d ∧ P) : d ≠ a := Ne.symm h.1
theorem nn2 (h : A ∧ a ≠ d ∧ P) : a ≠ d := h.2.1
theorem nm2 (h : A ∧ a ≠ d ∧ P) : d ≠ a := Ne.symm h.2.1
theorem nn3 (h : A ∧ B ∧ a ≠ d ∧ P) : a ≠ d := h.2.2.1
theorem nm3 (h : A ∧ B ∧ a ≠ d ∧ P) : d ≠ a := Ne.symm h.2.2.1
theorem nn4 (h : A ∧ B ∧ C ∧ a ≠ d ∧ P) : a ≠ d := h.2.2.2.1
theorem nm4 (h : A ∧ B ∧ C ∧ a ≠ d ∧ P) : d ≠ a := Ne.symm h.2.2.2.1
theorem nn5 (h : A ∧ B ∧ C ∧ D ∧ a ≠ d ∧ P) : a ≠ d := h.2.2.2.2.1
theorem nm5 (h : A ∧ B ∧ C ∧ D ∧ a ≠ d ∧ P) : d ≠ a := Ne.symm h.2.2.2.2.1
theorem lp1 (h : a < d ∧ P) : a < d := h.1
theorem lp2 (h : A ∧ a < d ∧ P) : a < d := h.2.1
theorem lp3 (h : A ∧ B ∧ a < d ∧ P) : a < d := h.2.2.1
theorem lp4 (h : A ∧ B ∧ C ∧ a < d ∧ P) : a < d := h.2.2.2.1
theorem lp5 (h : A ∧ B ∧ C ∧ D ∧ a < d ∧ P) : a < d := h.2.2.2.2.1
theorem lp6 (h : A ∧ B ∧ C ∧ D ∧ E ∧ a < d ∧ P) : a < d := h.2.2.2.2.2.1
theorem lp7 (h : A ∧ B ∧ C ∧ D ∧ E ∧ F ∧ a < d ∧ P) : a < d := h.2.2.2.2.2.2.1
theorem mx {x N : Int} (h : x < N) (hN : 0 < N) : 0 ≤ (if 0 > x then 0 else x) ∧ (if 0 > x then 0 else x) < N := by split <;> exact ⟨by omega, by omega⟩
theorem mxe {x N : Int} (h : x ≤ N) (hN : 0 ≤ N) : 0 ≤ (if 0 > x then 0 else x) ∧ (if 0 > x then 0 else x) ≤ N := by split <;> exact ⟨by omega, by omega⟩
end
theorem memOf {α : Type} {a : α} {l : List α} (h : a ∈ l) : List.Mem a l := h
end Cm
namespace Mine01
/-- a goal kept from the walk -/
def Blk (P : Prop) : Prop := P
theorem Blk.out {P : Prop} (h : Blk P) : P := h
theorem Blk.into {P : Prop} (h : P) : Blk P := h
end Mine01
local macro_rules | `(tactic| walk_at "execs nil") => `(tactic| refine wpAny_execs_nil ?_)
local macro_rules | `(tactic| walk_at "execs cons") => `(tactic| ((with_reducible refine wpAny_execs_cons ?_); (try dsimp only); (try k_fold)))
local macro_rules | `(tactic| walk_at "storeName") => `(tactic| (k_dflt (refine Cm.storeL (by k_asm) (by k_asm) ?_ (by rfl) (by rfl)); intro _ _ _ F' N'; (try k_sweep)))
local macro_rules | `(tactic| k_mem) => `(tactic| first | with_reducible assumption | (refine Cm.memOf ?_; with_reducible assumption))
local macro_rules | `(tactic| k_all) => `(tactic| first | with_reducible assumption | exact Cm.allLt_ne (by assumption) (by omega))
local macro_rules | `(tactic| k_ne) => `(tactic| ((try dsimp only); first | (with_reducible first | assumption | (symm; assumption) | exact Cm.nl1 ‹_› | exact Cm.ng1 ‹_› | exact Cm.nl2 ‹_› | exact Cm.ng2 ‹_› | exact Cm.nl3 ‹_› | exact Cm.ng3 ‹_› | exact Cm.nl4 ‹_› | exact Cm.ng4 ‹_› | exact Cm.nl5 ‹_› | exact Cm.ng5 ‹_› | exact Cm.nl6 ‹_› | exact Cm.ng6 ‹_› | exact Cm.nl7 ‹_› | exact Cm.ng7 ‹_› | exact Cm.nn1 ‹_› | exact Cm.nm1 ‹_› | exact Cm.nn2 ‹_› | exact Cm.nm2 ‹_› | exact Cm.nn3 ‹_› | exact Cm.nm3 ‹_› | exact Cm.nn4 ‹_› | exact Cm.nm4 ‹_› | exact Cm.nn5 ‹_› | exact Cm.nm5 ‹_›) | (apply neN; omega)))

section
namespace Jn
theorem split_wp {M : Model} {Γ : Ctx} {env : Env} {Qp : Flow → Pos → Shared → Prop} {Ep : Value → Pos → Shared → Prop} : ∀ (l : List Stmt) (n : Nat) (p : Pos) (s : Shared),
    Sem.wp M Γ (execs (l.take n) env) (fun f p' s' => match f with | .next => Sem.wp M Γ (execs (l.drop n) env) Qp Ep p' s' | f => Qp f p' s') Ep p s → Sem.wp M Γ (execs l env) Qp Ep p s := by
  intro l
  induction l with
  | nil => 
    intro n p s h
    simp only [List.take_nil, List.drop_nil] at h
    exact h
  | cons a r ih =>
    intro n p s h
    cases n with
    | zero => exact h
    | succ n =>
      simp only [List.take_succ_cons, List.drop_succ_cons] at h
      rw [execs_cons, Sem.wp_bind'] at h ⊢
      refine Sem.wp_mono M Γ _ (fun f p' s' h' => ?_) (fun _ _ _ h' => h') _ _ h
      cases f with
      | next => exact ih n p' s' h'
      | _ => exact h'
/-- a checkpoint: the first n statements bring J, and the others go on from J -/
theorem execs_at {M : Model} {A : Around} {env : Env} {E : Value → Shared → Prop} {s : Shared} {Q : Flow → Shared → Prop} {l : List Stmt} (n : Nat) (J : Shared → Prop)
    (h1 : wpAny M A (execs (l.take n) env) (fun f s' => f = .next ∧ J s') E s) (h2 : ∀ s', J s' → wpAny M A (execs (l.drop n) env) Q E s') : wpAny M A (execs l env) Q E s := fun Γ p hΓ => by
  refine split_wp l n p s ?_
  refine Sem.wp_mono M Γ _ (fun f p' s' h' => ?_) (fun _ _ _ h' => h') _ _ (h1 Γ p hΓ)
  obtain ⟨rfl, h'⟩ := h'
  exact h2 s' h' Γ p' hΓ
/-- a lid: the walk does not look into it -/
def Keep (p : Prop) : Prop := p
theorem ckpt {M : Model} {A : Around} {env : Env} {E : Value → Shared → Prop} {s : Shared} {Q : Flow → Shared → Prop} {l : List Stmt} (n : Nat) (J : Heap → Prop)
    (h1 : wpAny M A (execs (l.take n) env) (fun f s' => f = .next ∧ Keep (∃ h' tk', s' = { s with heap := h', toks := tk' } ∧ J h')) E s)
    (h2 : ∀ h' tk', J h' → wpAny M A (execs (l.drop n) env) Q E { s with heap := h', toks := tk' }) : wpAny M A (execs l env) Q E s :=
  execs_at n (fun s' => ∃ h' tk', s' = { s with heap := h', toks := tk' } ∧ J h') h1 fun s' ⟨h', tk', e, j⟩ => by
    subst e
    exact h2 h' tk' j
theorem un2 {a1 a2 G : Prop} (k : a1 → a2 → G) (h : a1 ∧ a2) : G := k h.1 h.2
theorem un3 {a1 a2 a3 G : Prop} (k : a1 → a2 → a3 → G) (h : a1 ∧ a2 ∧ a3) : G := k h.1 h.2.1 h.2.2
theorem un4 {a1 a2 a3 a4 G : Prop} (k : a1 → a2 → a3 → a4 → G) (h : a1 ∧ a2 ∧ a3 ∧ a4) : G := k h.1 h.2.1 h.2.2.1 h.2.2.2
theorem un5 {a1 a2 a3 a4 a5 G : Prop} (k : a1 → a2 → a3 → a4 → a5 → G) (h : a1 ∧ a2 ∧ a3 ∧ a4 ∧ a5) : G := k h.1 h.2.1 h.2.2.1 h.2.2.2.1 h.2.2.2.2
theorem un6 {a1 a2 a3 a4 a5 a6 G : Prop} (k : a1 → a2 → a3 → a4 → a5 → a6 → G) (h : a1 ∧ a2 ∧ a3 ∧ a4 ∧ a5 ∧ a6) : G := k h.1 h.2.1 h.2.2.1 h.2.2.2.1 h.2.2.2.2.1 h.2.2.2.2.2
theorem un9 {a1 a2 a3 a4 a5 a6 a7 a8 a9 G : Prop} (k : a1 → a2 → a3 → a4 → a5 → a6 → a7 → a8 → a9 → G) (h : a1 ∧ a2 ∧ a3 ∧ a4 ∧ a5 ∧ a6 ∧ a7 ∧ a8 ∧ a9) : G := k h.1 h.2.1 h.2.2.1 h.2.2.2.1 h.2.2.2.2.1 h.2.2.2.2.2.1 h.2.2.2.2.2.2.1 h.2.2.2.2.2.2.2.1 h.2.2.2.2.2.2.2.2
theorem un12 {a1 a2 a3 a4 a5 a6 a7 a8 a9 a10 a11 a12 G : Prop} (k : a1 → a2 → a3 → a4 → a5 → a6 → a7 → a8 → a9 → a10 → a11 → a12 → G) (h : a1 ∧ a2 ∧ a3 ∧ a4 ∧ a5 ∧ a6 ∧ a7 ∧ a8 ∧ a9 ∧ a10 ∧ a11 ∧ a12) : G := k h.1 h.2.1 h.2.2.1 h.2.2.2.1 h.2.2.2.2.1 h.2.2.2.2.2.1 h.2.2.2.2.2.2.1 h.2.2.2.2.2.2.2.1 h.2.2.2.2.2.2.2.2.1 h.2.2.2.2.2.2.2.2.2.1 h.2.2.2.2.2.2.2.2.2.2.1 h.2.2.2.2.2.2.2.2.2.2.2
end Jn
end

section
namespace Mine01
open_top hd for PySem.Challenge.rw_kl0458_01
end Mine01
end
namespace Mine01
theorem rest3 : True ∧ True := by w_top off; first | (walk1; all_goals trivial) | exact ⟨trivial, trivial⟩
end Mine01

section
namespace DivM
set_option linter.unusedVariables false

theorem two_pow_pos (k : Nat) : (0 : Int) < 2 ^ k := kbt_pos k
theorem pow_add' (i j : Nat) : (2 : Int) ^ (i + j) = 2 ^ i * 2 ^ j := Int.pow_add 2 i j
theorem pow_succ' (i : Nat) : (2 : Int) ^ (i + 1) = 2 * 2 ^ i := by rw [Int.pow_succ]; (first | lia | omega)

theorem pow_le {i j : Nat} (h : i ≤ j) : (2 : Int) ^ i ≤ 2 ^ j := by
  obtain ⟨d, rfl⟩ := Nat.le.dest h
  rw [pow_add']
  have h1 := two_pow_pos i
  have h2 := two_pow_pos d
  have : (2 : Int) ^ i * 1 ≤ 2 ^ i * 2 ^ d := Int.mul_le_mul_of_nonneg_left (by (first | lia | omega)) (by (first | lia | omega))
  (first | lia | omega)

theorem log2_lt' {n m : Nat} (h : n < 2 ^ m) (h0 : n ≠ 0) : n.log2 < m := (Nat.log2_lt h0).mpr h

theorem bits_le {a : Int} {m : Nat} (h0 : 0 ≤ a) (h : a < 2 ^ m) : (Builtin.Int.intBits a : Int) ≤ m := by
  unfold Builtin.Int.intBits
  split
  · (first | lia | omega)
  · rename_i hne
    have hne' : a ≠ 0 := by simpa using hne
    have hn : a.natAbs < 2 ^ m := by
      have e : ((a.natAbs : Nat) : Int) = a := by (first | lia | omega)
      have c := kbt_cast m
      (first | lia | omega)
    have := log2_lt' hn (by (first | lia | omega))
    (first | lia | omega)

theorem bits_ge {b : Int} {m : Nat} (h : 2 ^ m ≤ b) : (m : Int) + 1 ≤ Builtin.Int.intBits b := by
  have hp := two_pow_pos m
  unfold Builtin.Int.intBits
  split
  · rename_i h0
    have : b = 0 := by simpa using h0
    (first | lia | omega)
  · have c := kbt_cast m
    have hn : 2 ^ m ≤ b.natAbs := by (first | lia | omega)
    have : m ≤ b.natAbs.log2 := (Nat.le_log2 (by (first | lia | omega))).mpr hn
    (first | lia | omega)

theorem noPy {a b : Int} (h : (Builtin.Int.intBits a : Int) ≤ Builtin.Int.intBits b + 4000) : Builtin.divisionGoesByPylong a b = false := by
  unfold Builtin.divisionGoesByPylong
  unfold Builtin.Int.intBits at h
  simp only [Bool.and_eq_false_iff, decide_eq_false_iff_not, Nat.not_lt]
  right
  split at h <;> split at h <;> simp_all <;> (first | lia | omega)

/-- a quotient is told by its equation -/
theorem ediv_of {a b q r : Int} (h : a = q * b + r) (h0 : 0 ≤ r) (h1 : r < b) : a / b = q ∧ a % b = r := by
  refine (Int.ediv_emod_unique (by (first | lia | omega))).mpr ⟨?_, h0, h1⟩
  rw [h, Int.mul_comm]; (first | lia | omega)

theorem div_lt_pow {a : Int} {m : Nat} {c : Int} (h : a < 2 ^ m * c) : a / 2 ^ m < c := by
  refine Int.ediv_lt_of_lt_mul (two_pow_pos m) ?_
  rw [Int.mul_comm]; exact h

theorem or_low {q y : Int} {k : Nat} (hq : 0 ≤ q) (h0 : 0 ≤ y) (h1 : y < 2 ^ k) : Builtin.bitOr (q * 2 ^ k) y = q * 2 ^ k + y := by
  have hp := two_pow_pos k
  have hx : 0 ≤ q * 2 ^ k := Int.mul_nonneg hq (by (first | lia | omega))
  have c := kbt_cast k
  have hy : y.toNat < 2 ^ k := by (first | lia | omega)
  have e1 : (q * 2 ^ k).toNat = q.toNat * 2 ^ k := by
    have : ((q.toNat * 2 ^ k : Nat) : Int) = q * 2 ^ k := by
      rw [Int.natCast_mul, c, Int.toNat_of_nonneg hq]
    (first | lia | omega)
  have e2 : (q.toNat * 2 ^ k) &&& y.toNat = 0 := by
    have h3 := nat_or_add_and (q.toNat * 2 ^ k) y.toNat
    have h4 : (q.toNat * 2 ^ k) ||| y.toNat = q.toNat * 2 ^ k + y.toNat := by
      have := Nat.two_pow_add_eq_or_of_lt hy q.toNat
      rw [Nat.mul_comm] at this
      exact this.symm
    (first | lia | omega)
  rw [bitOr_and, bitAnd_pp hx h0, e1, e2]
  simp

/-- the two calls' arguments, of the halves -/
theorem d21a {a b n h vm a12 x a3 b1 b2 : Int} (hn : n = 2 * h) (h0 : 0 < h) (ha : 0 ≤ a) (hb0 : 2 ^ (n.toNat - 1) ≤ b) (hb : b < 2 ^ n.toNat) (hab : a < 2 ^ n.toNat * b)
    (hvm : vm = 1 * 2 ^ h.toNat) (ha12 : a12 = a / 2 ^ n.toNat) (hx : x = a / 2 ^ h.toNat) (ha3 : a3 = Builtin.bitAnd x (vm - 1)) (hb1 : b1 = b / 2 ^ h.toNat) (hb2 : b2 = Builtin.bitAnd b (vm - 1)) :
    0 ≤ a12 ∧ a12 < b ∧ 0 ≤ a3 ∧ a3 < 2 ^ h.toNat ∧ b = b1 * 2 ^ h.toNat + b2 ∧ 0 ≤ b2 ∧ b2 < 2 ^ h.toNat ∧ 2 ^ (h.toNat - 1) ≤ b1 ∧ b1 < 2 ^ h.toNat ∧ a12 * 2 ^ h.toNat + a3 = a / 2 ^ h.toNat := by
  have hnk : n.toNat = h.toNat + h.toNat := by (first | lia | omega)
  rw [hnk] at hb0 hb hab ha12
  have hK0 : 0 < h.toNat := by (first | lia | omega)
  generalize h.toNat = K at *
  obtain ⟨k, rfl⟩ : ∃ k : Nat, K = k + 1 := ⟨K - 1, by (first | lia | omega)⟩
  clear hnk
  have hp := two_pow_pos (k + 1)
  have hpp := two_pow_pos (k + 1 + (k + 1))
  have e2 := pow_add' (k + 1) (k + 1)
  have e1 : vm - 1 = 2 ^ (k + 1) - 1 := by (first | lia | omega)
  rw [e1, kbt_mask] at ha3 hb2
  have m1 := Int.emod_nonneg x (show (2 : Int) ^ (k + 1) ≠ 0 by (first | lia | omega))
  have m2 := Int.emod_lt_of_pos x hp
  have m3 := Int.emod_nonneg b (show (2 : Int) ^ (k + 1) ≠ 0 by (first | lia | omega))
  have m4 := Int.emod_lt_of_pos b hp
  have b3 := Int.mul_ediv_add_emod b (2 ^ (k + 1))
  have b4 : b = b1 * 2 ^ (k + 1) + b2 := by rw [hb1, hb2, Int.mul_comm]; exact b3.symm
  have bpos : 0 < b := by
    have := two_pow_pos (k + 1 + (k + 1) - 1)
    (first | lia | omega)
  refine ⟨?_, ?_, ?_, ?_, b4, ?_, ?_, ?_, ?_, ?_⟩
  · rw [ha12]; exact Int.ediv_nonneg ha (by (first | lia | omega))
  · rw [ha12]; exact div_lt_pow hab
  · (first | lia | omega)
  · (first | lia | omega)
  · (first | lia | omega)
  · (first | lia | omega)
  · rw [hb1]
    refine (Int.le_ediv_iff_mul_le hp).mpr ?_
    have : (2 : Int) ^ (k + 1 - 1) * 2 ^ (k + 1) = 2 ^ (k + 1 + (k + 1) - 1) := by
      rw [← pow_add']; congr 1; (first | lia | omega)
    rw [this]; exact hb0
  · rw [hb1]
    refine Int.ediv_lt_of_lt_mul hp ?_
    rw [← e2]; exact hb
  · rw [ha12, ha3, hx, e2, ← Int.ediv_ediv_of_nonneg (by (first | lia | omega))]
    have := Int.mul_ediv_add_emod (a / 2 ^ (k + 1)) (2 ^ (k + 1))
    rw [Int.mul_comm] at this
    exact this

theorem d21b {a b h vm q1 r1 a3 q2 r2 w1 w2 : Int} (h0 : 0 < h) (ha : 0 ≤ a) (hb : 0 < b) (hvm : vm = 1 * 2 ^ h.toNat) (h1 : a / 2 ^ h.toNat = q1 * b + r1) (hr0 : 0 ≤ r1) (hr1 : r1 < b)
    (ha3 : a3 = Builtin.bitAnd a (vm - 1)) (h2 : r1 * 2 ^ h.toNat + a3 = q2 * b + r2) (hs0 : 0 ≤ r2) (hs1 : r2 < b) (hw1 : w1 = q1 * 2 ^ h.toNat) (hw2 : w2 = Builtin.bitOr w1 q2) :
    a = w2 * b + r2 := by
  have hp := two_pow_pos h.toNat
  have e1 : vm - 1 = 2 ^ h.toNat - 1 := by (first | lia | omega)
  rw [e1, kbt_mask] at ha3
  have m1 := Int.emod_nonneg a (show (2 : Int) ^ h.toNat ≠ 0 by (first | lia | omega))
  have m2 := Int.emod_lt_of_pos a hp
  have b3 := Int.mul_ediv_add_emod a (2 ^ h.toNat)
  have n1 : 0 ≤ a / 2 ^ h.toNat := Int.ediv_nonneg ha (by (first | lia | omega))
  have q1n : 0 ≤ q1 := by
    have := (ediv_of h1 hr0 hr1).1
    rw [← this]; exact Int.ediv_nonneg n1 (by (first | lia | omega))
  have z1 : 0 ≤ r1 * 2 ^ h.toNat := Int.mul_nonneg hr0 (by (first | lia | omega))
  have q2e := (ediv_of h2 hs0 hs1).1
  have q2n : 0 ≤ q2 := by rw [← q2e]; exact Int.ediv_nonneg (by (first | lia | omega)) (by (first | lia | omega))
  have q2l : q2 < 2 ^ h.toNat := by
    rw [← q2e]
    refine Int.ediv_lt_of_lt_mul hb ?_
    have : (r1 + 1) * 2 ^ h.toNat ≤ b * 2 ^ h.toNat := Int.mul_le_mul_of_nonneg_right (by (first | lia | omega)) (by (first | lia | omega))
    rw [Int.add_mul, Int.one_mul] at this
    rw [Int.mul_comm (2 ^ h.toNat) b]
    (first | lia | omega)
  rw [hw1, or_low q1n q2n q2l] at hw2
  rw [hw2, Int.add_mul]
  have e3 : q1 * 2 ^ h.toNat * b = 2 ^ h.toNat * (q1 * b) := by
    rw [Int.mul_comm q1, Int.mul_assoc]
  rw [e3]
  have e4 : 2 ^ h.toNat * (a / 2 ^ h.toNat) = 2 ^ h.toNat * (q1 * b) + 2 ^ h.toNat * r1 := by rw [h1, Int.mul_add]
  have e5 : 2 ^ h.toNat * r1 = r1 * 2 ^ h.toNat := Int.mul_comm _ _
  (first | lia | omega)

/-- sizes of what the second half hands on -/
theorem d21c {a b h q1 r1 : Int} {n : Nat} (hb : 0 < b) (h1 : a = q1 * b + r1) (hr0 : 0 ≤ r1) (hr1 : r1 < b) (ha : 0 ≤ a) (hab : a < 2 ^ n * b) : 0 ≤ q1 ∧ q1 < 2 ^ n := by
  have e := (ediv_of h1 hr0 hr1).1
  constructor
  · rw [← e]; exact Int.ediv_nonneg ha (by (first | lia | omega))
  · rw [← e]; exact Int.ediv_lt_of_lt_mul hb hab

theorem d3a {a12 b1 b2 b n : Int} (hb : b = b1 * 2 ^ n.toNat + b2) (h2 : 0 ≤ b2) (h2' : b2 < 2 ^ n.toNat) (h0 : 0 ≤ a12) (h1 : a12 < b) (v : Int) (hv : v = a12 / 2 ^ n.toNat) : v ≤ b1 ∧ (v ≠ b1 → a12 < 2 ^ n.toNat * b1) := by
  have hp := two_pow_pos n.toNat
  have e : a12 / 2 ^ n.toNat < b1 + 1 := by
    refine Int.ediv_lt_of_lt_mul hp ?_
    rw [Int.add_mul, Int.one_mul]
    (first | lia | omega)
  refine ⟨by (first | lia | omega), fun hne => ?_⟩
  have h3 : a12 / 2 ^ n.toNat < b1 := by (first | lia | omega)
  have h4 := Int.lt_mul_of_ediv_lt hp h3
  rw [Int.mul_comm]; exact h4

theorem dm_facts {a b : Int} (hb : 0 < b) : a = a.fdiv b * b + a.fmod b ∧ 0 ≤ a.fmod b ∧ a.fmod b < b := by
  rw [Int.fdiv_eq_ediv_of_nonneg _ (by (first | lia | omega)), Int.fmod_eq_emod_of_nonneg _ (by (first | lia | omega))]
  have h1 := Int.mul_ediv_add_emod a b
  have h2 := Int.emod_nonneg a (show b ≠ 0 by (first | lia | omega))
  have h3 := Int.emod_lt_of_pos a hb
  rw [Int.mul_comm] at h1
  exact ⟨h1.symm, h2, h3⟩

theorem d21pad {a b n a' b' : Int} (hn : 0 < n) (ha : 0 ≤ a) (hb0 : 2 ^ (n.toNat - 1) ≤ b) (hb : b < 2 ^ n.toNat) (hab : a < 2 ^ n.toNat * b) (ha' : a' = a * 2) (hb' : b' = b * 2) :
    0 ≤ a' ∧ 2 ^ ((n + 1).toNat - 1) ≤ b' ∧ b' < 2 ^ (n + 1).toNat ∧ a' < 2 ^ (n + 1).toNat * b' := by
  have e : (n + 1).toNat = n.toNat + 1 := by (first | lia | omega)
  rw [e]
  have e2 := pow_succ' n.toNat
  have e3 : (2 : Int) ^ n.toNat = 2 * 2 ^ (n.toNat - 1) := by
    rw [← pow_succ']; congr 1; (first | lia | omega)
  refine ⟨by (first | lia | omega), by rw [show n.toNat + 1 - 1 = n.toNat by (first | lia | omega)]; (first | lia | omega), by (first | lia | omega), ?_⟩
  rw [e2, hb', show 2 * (2 : Int) ^ n.toNat * (b * 2) = 4 * (2 ^ n.toNat * b) by rw [Int.mul_assoc, ← Int.mul_assoc _ b 2]; (first | lia | omega)]
  have := Int.mul_nonneg (show (0 : Int) ≤ 2 ^ n.toNat by have := two_pow_pos n.toNat; (first | lia | omega)) (show 0 ≤ b by have := two_pow_pos (n.toNat - 1); (first | lia | omega))
  (first | lia | omega)

theorem d21unpad {a b a' b' q r x : Int} (ha' : a' = a * 2) (hb' : b' = b * 2) (h : a' = q * b' + r) (h0 : 0 ≤ r) (h1 : r < b') (hx : x = r / 2) : a = q * b + x ∧ 0 ≤ x ∧ x < b := by
  rw [hb', show q * (b * 2) = 2 * (q * b) by rw [← Int.mul_assoc]; (first | lia | omega)] at h
  (first | lia | omega)


theorem half_of {m h : Int} (hh : h = m / 2) (hm : m % 2 = 0) : m = 2 * h := by (first | lia | omega)

theorem d21a3 {a h a3 : Int} (ha : 0 ≤ a) (ha3 : a3 = Builtin.bitAnd a (1 * 2 ^ h.toNat - 1)) : 0 ≤ a3 ∧ a3 < 2 ^ h.toNat := by
  have hp := two_pow_pos h.toNat
  rw [show (1 : Int) * 2 ^ h.toNat - 1 = 2 ^ h.toNat - 1 by (first | lia | omega), kbt_mask] at ha3
  have m1 := Int.emod_nonneg a (show (2 : Int) ^ h.toNat ≠ 0 by (first | lia | omega))
  have m2 := Int.emod_lt_of_pos a hp
  (first | lia | omega)
theorem lt_mix {a12 a3 b : Int} {k : Nat} (h3 : a3 < 2 ^ k) (h : a12 < b) : a12 * 2 ^ k + a3 < 2 ^ k * b := by
  have hp := two_pow_pos k
  have : 2 ^ k * (a12 + 1) ≤ 2 ^ k * b := Int.mul_le_mul_of_nonneg_left (by (first | lia | omega)) (by (first | lia | omega))
  rw [Int.mul_add, Int.mul_one, Int.mul_comm] at this
  (first | lia | omega)

theorem d21z {a12 a3 b q r : Int} {k : Nat} (h0 : 0 ≤ a12) (h1 : a12 < b) (h2 : 0 ≤ a3) (h3 : a3 < 2 ^ k) (e : a12 * 2 ^ k + a3 = q * b + r) (r0 : 0 ≤ r) (r1 : r < b) : 0 ≤ q ∧ q < 2 ^ k := by
  have hp := two_pow_pos k
  have : 0 ≤ a12 * 2 ^ k := Int.mul_nonneg h0 (by (first | lia | omega))
  exact d21c (h := 0) (by (first | lia | omega)) e r0 r1 (by (first | lia | omega)) (lt_mix h3 h1)

theorem mulOk {a b : Int} (h : (Builtin.Int.intBits a : Int) + Builtin.Int.intBits b ≤ 2 ^ 27) : IntMulOk a b := by
  unfold IntMulOk
  have : Builtin.Int.intTooBig ((Builtin.Int.intBits a : Int) + Builtin.Int.intBits b) = false := decide_eq_false (Int.not_lt.mpr h)
  rw [this, Bool.and_false]
  exact Bool.false_ne_true

/-- the first way's rest -/
theorem d3r {a12 b1 n v1 v : Int} (hv1 : v1 = a12 / 2 ^ n.toNat) (he : v1 = b1) (hv : v = b1 * 2 ^ n.toNat) : 0 ≤ a12 - v ∧ a12 - v < 2 ^ n.toNat := by
  have hp := two_pow_pos n.toNat
  have m1 := Int.emod_nonneg a12 (show (2 : Int) ^ n.toNat ≠ 0 by (first | lia | omega))
  have m2 := Int.emod_lt_of_pos a12 hp
  have b3 := Int.mul_ediv_add_emod a12 (2 ^ n.toNat)
  rw [← hv1, he, Int.mul_comm] at b3
  (first | lia | omega)
theorem d3sz {a12 b1 n v1 v : Int} (hn : 0 < n) (hn6 : n ≤ 1000000) (h1 : 0 < b1) (hb1 : b1 < 2 ^ n.toNat) (hv1 : v1 = a12 / 2 ^ n.toNat) (he : v1 = b1) (hv : v = b1 * 2 ^ n.toNat) :
    (Builtin.Int.intBits (a12 - v + b1) : Int) + n ≤ 2 ^ 27 := by
  have h := d3r hv1 he hv
  have := bits_le (a := a12 - v + b1) (m := n.toNat + 1) (by (first | lia | omega)) (by rw [pow_succ']; (first | lia | omega))
  (first | lia | omega)

/-- the loop's start, from either way: r·2^n | a3 less q·b2 -/
theorem d3in {a12 a3 b b1 b2 n q r x y : Int} (ha2 : 0 ≤ a3) (ha3 : a3 < 2 ^ n.toNat) (hb : b = b1 * 2 ^ n.toNat + b2) (e : a12 = q * b1 + r) (hr : 0 ≤ r) (hx : x = r * 2 ^ n.toNat) (hy : y = Builtin.bitOr x a3) :
    a12 * 2 ^ n.toNat + a3 = q * b + (y - q * b2) := by
  rw [hx, or_low hr ha2 ha3] at hy
  rw [hy, hb, e, Int.add_mul, Int.mul_add, Int.mul_assoc]
  (first | lia | omega)
theorem d3lt2 {a3 b b1 b2 n q r x y : Int} (ha2 : 0 ≤ a3) (ha3 : a3 < 2 ^ n.toNat) (hb : b = b1 * 2 ^ n.toNat + b2) (hb2 : 0 ≤ b2) (hq : 0 ≤ q) (hr : 0 ≤ r) (hr1 : r < b1) (hx : x = r * 2 ^ n.toNat) (hy : y = Builtin.bitOr x a3) : y - q * b2 < b := by
  rw [hx, or_low hr ha2 ha3] at hy
  have h1 : (r + 1) * 2 ^ n.toNat ≤ b1 * 2 ^ n.toNat := Int.mul_le_mul_of_nonneg_right (by (first | lia | omega)) (by have := two_pow_pos n.toNat; (first | lia | omega))
  rw [Int.add_mul, Int.one_mul] at h1
  have h2 : 0 ≤ q * b2 := Int.mul_nonneg hq hb2
  (first | lia | omega)
theorem d3lt1 {a12 a3 b n z : Int} (ha3 : a3 < 2 ^ n.toNat) (h1 : a12 < b) (e : a12 * 2 ^ n.toNat + a3 = (1 * 2 ^ n.toNat - 1) * b + z) : z < b := by
  have h := lt_mix ha3 h1
  rw [Int.one_mul, Int.sub_mul, Int.one_mul] at e
  (first | lia | omega)
theorem d3e1 {a12 b1 n v : Int} (hv : v = b1 * 2 ^ n.toNat) : a12 = (1 * 2 ^ n.toNat - 1) * b1 + (a12 - v + b1) := by
  rw [hv, Int.one_mul, Int.sub_mul, Int.one_mul, Int.mul_comm b1]; (first | lia | omega)
theorem d3turn {a b q r : Int} (e : a = q * b + r) : a = (q - 1) * b + (r + b) := by
  rw [Int.sub_mul, Int.one_mul]; (first | lia | omega)

theorem d3r0 {a12 b1 n v1 v : Int} (h1 : 0 < b1) (hv1 : v1 = a12 / 2 ^ n.toNat) (he : v1 = b1) (hv : v = b1 * 2 ^ n.toNat) : 0 ≤ a12 - v + b1 := by
  have h := d3r hv1 he hv
  (first | lia | omega)
end DivM
end

section
namespace Mine01
open DivM

section
variable {prog : Program} {w : World} {A : Around} {E : Value → Shared → Prop} {s : Shared} {a b n : Int} {t u : Tok} {Q : Value → Shared → Prop}
theorem my_rshift (hn : 0 ≤ n) (h : ∀ v, v = a / 2 ^ n.toNat → Q (.int v s.toks) { s with toks := s.toks + 1 }) : wpAny (model prog w) A (binaryOp .RShift (.int a t) (.int n u)) Q E s :=
  rshift_int hn (by rw [Int.fdiv_eq_ediv_of_nonneg _ (by have := two_pow_pos n.toNat; (first | lia | omega))]; exact h _ rfl)
theorem my_irshift (hn : 0 ≤ n) (h : ∀ v, v = a / 2 ^ n.toNat → Q (.int v s.toks) { s with toks := s.toks + 1 }) : wpAny (model prog w) A (inplaceOp .RShift (.int a t) (.int n u)) Q E s :=
  irshift_int hn (by rw [Int.fdiv_eq_ediv_of_nonneg _ (by have := two_pow_pos n.toNat; (first | lia | omega))]; exact h _ rfl)
theorem my_lshift (hn : 0 ≤ n) (hz : (Builtin.Int.intBits a : Int) + n ≤ 2 ^ 27) (h : ∀ v, v = a * 2 ^ n.toNat → Q (.int v s.toks) { s with toks := s.toks + 1 }) : wpAny (model prog w) A (binaryOp .LShift (.int a t) (.int n u)) Q E s :=
  lshift_int hn hz (h _ rfl)
theorem my_ilshift (hn : 0 ≤ n) (hz : (Builtin.Int.intBits a : Int) + n ≤ 2 ^ 27) (h : ∀ v, v = a * 2 ^ n.toNat → Q (.int v s.toks) { s with toks := s.toks + 1 }) : wpAny (model prog w) A (inplaceOp .LShift (.int a t) (.int n u)) Q E s :=
  ilshift_int hn hz (h _ rfl)
theorem my_and (h : ∀ v, v = Builtin.bitAnd a b → Q (.int v s.toks) { s with toks := s.toks + 1 }) : wpAny (model prog w) A (binaryOp .BitAnd (.int a t) (.int b u)) Q E s := and_int (h _ rfl)
theorem my_mul (hz : (Builtin.Int.intBits a : Int) + Builtin.Int.intBits b ≤ 2 ^ 27) (h : Q (.int (a * b) s.toks) { s with toks := s.toks + 1 }) : wpAny (model prog w) A (binaryOp .Mult (.int a t) (.int b u)) Q E s := mul_int h (mulOk hz)
theorem my_or (h : ∀ v, v = Builtin.bitOr a b → Q (.int v s.toks) { s with toks := s.toks + 1 }) : wpAny (model prog w) A (binaryOp .BitOr (.int a t) (.int b u)) Q E s := or_int (h _ rfl)
end
theorem allLt_mem {d : Addr} {l : List (Addr × Obj)} (h : AllLt d l) : ∀ p ∈ l, p.1 < d := by
  induction l with
  | nil => intro p hp; cases hp
  | cons q r ih =>
    intro p hp
    rcases List.mem_cons.mp hp with rfl | hp
    · exact h.1
    · exact ih h.2 p hp
theorem nd1 {h₀ h : Heap} {L : Addr} {x y : Addr × Obj} {r : List (Addr × Obj)} (N : News h₀ L h (x :: y :: r)) : News h₀ L h (x :: r) :=
  cb_drop N fun p hp => by
    rcases List.mem_cons.mp hp with rfl | hp
    · exact .head _
    · exact .tail _ (.tail _ hp)
section
variable {prog : Program} {w : World} {A : Around} {E : Value → Shared → Prop} {s : Shared} {env : Env} {h₀ : Heap} {L : Addr} {Q : Flow → Shared → Prop}
/-- a while by a word over the names alone; the ledger stands -/
theorem my_while {test : Expr} {body : List Stmt} {pos : Pos} {m : Str → Option Value} {news : List (Addr × Obj)} (J : Nat → (Str → Option Value) → Prop) {n₀ : Nat}
    (F : Fr h₀ L s.heap m) (N : News h₀ L s.heap news) (hJ : J n₀ m) (hE : PassesOwn (model prog w) A env E)
    (turn : ∀ n m₁ h₁ tk₁, Fr h₀ L h₁ m₁ → News h₀ L h₁ news → J n m₁ →
      wpAny (model prog w) A (isTrue test env (eval test env)) (fun b s₂ =>
        if b = true then wpAny (model prog w) A (execs body env) (WhileStep2 h₀ L s (fun n m nx => nx = news ∧ J n m) Q n) E s₂ else Q .next s₂) E { s with heap := h₁, toks := tk₁ }) :
    wpAny (model prog w) A (exec (.While test body [] pos) env) Q E s :=
  While_inv2 (fun n m nx => nx = news ∧ J n m) F N ⟨rfl, hJ⟩ (fun n m₁ nx h₁ tk₁ F₁ N₁ hj => by
    obtain ⟨rfl, hj⟩ := hj
    exact turn n m₁ h₁ tk₁ F₁ N₁ hj) hE
end
theorem bits_one : (Builtin.Int.intBits 1 : Int) = 1 := by decide +kernel

theorem fr_named {g : Heap} {L : Addr} {h : Heap} {m : Str → Option Value} (ps : List (Str × Value)) (hp : ∀ p ∈ ps, m p.1 = some p.2) (F : Fr g L h m) : Fr g L h (kstB m ps) := by
  have e : kstB m ps = m := by
    funext y
    exact kstB_eq hp fun _ => rfl
  rw [e]; exact F

def NmAre (m : Str → Option Value) (ps : List (Str × Value)) : Prop := ∀ p ∈ ps, m p.1 = some p.2
theorem nm_nil {m : Str → Option Value} : NmAre m [] := fun _ h => nomatch h
theorem nm_cons {m : Str → Option Value} {n : Str} {v : Value} {ps : List (Str × Value)} (h : m n = some v) (r : NmAre m ps) : NmAre m ((n, v) :: ps) := fun p hp => by
  rcases List.mem_cons.mp hp with rfl | hp
  · exact h
  · exact r p hp
theorem fr_fold {g : Heap} {L : Addr} {h : Heap} {m : Str → Option Value} {ps : List (Str × Value)} {G : Prop} (F : Fr g L h m) (hp : NmAre m ps) (k : let m' : Str → Option Value := kstB m ps; Fr g L h m' → G) : G := k (fr_named ps hp F)
theorem fr_nm {g : Heap} {L : Addr} {h : Heap} {m : Str → Option Value} {ps : List (Str × Value)} (F : Fr g L h m) (hp : NmAre m ps) : Fr g L h (kstB m ps) := fr_named ps hp F
/-- the padded numbers -/
def Pad (a b n v a' b' n' : Int) : Prop := (v = 0 ∧ a' = a ∧ b' = b ∧ n' = n) ∨ (v = 1 ∧ a' = a * 2 ∧ b' = b * 2 ∧ n' = n + 1)
theorem pad_facts {a b n v a' b' n' : Int} (h : Pad a b n v a' b' n') (hn : 0 < n) (ha : 0 ≤ a) (hb0 : 2 ^ (n.toNat - 1) ≤ b) (hb : b < 2 ^ n.toNat) (hab : a < 2 ^ n.toNat * b) :
    0 ≤ a' ∧ 2 ^ (n'.toNat - 1) ≤ b' ∧ b' < 2 ^ n'.toNat ∧ a' < 2 ^ n'.toNat * b' ∧ n ≤ n' ∧ n' ≤ n + 1 := by
  rcases h with ⟨_, rfl, rfl, rfl⟩ | ⟨_, ha', hb', rfl⟩
  · exact ⟨ha, hb0, hb, hab, by (first | lia | omega), by (first | lia | omega)⟩
  · have D := d21pad hn ha hb0 hb hab ha' hb'
    exact ⟨D.1, D.2.1, D.2.2.1, D.2.2.2, by (first | lia | omega), by (first | lia | omega)⟩
theorem pad_bits {a b n : Int} (hn : 0 < n) (ha : 0 ≤ a) (hb1 : 2 ^ (n.toNat - 1) ≤ b) (hb2 : b < 2 ^ n.toNat) (hab : a < 2 ^ n.toNat * b) :
    (Builtin.Int.intBits b : Int) ≤ n ∧ n ≤ Builtin.Int.intBits b ∧ 0 < b ∧ (Builtin.Int.intBits a : Int) ≤ n + n := by
  have hb0 : 0 < b := by have := two_pow_pos (n.toNat - 1); (first | lia | omega)
  refine ⟨by have := bits_le (a := b) (m := n.toNat) (by (first | lia | omega)) hb2; (first | lia | omega), by have := bits_ge hb1; (first | lia | omega), hb0, ?_⟩
  have h1 : (2 : Int) ^ n.toNat * b < 2 ^ n.toNat * 2 ^ n.toNat := Int.mul_lt_mul_of_pos_left hb2 (two_pow_pos _)
  rw [← pow_add'] at h1
  have := bits_le (a := a) (m := n.toNat + n.toNat) ha (by (first | lia | omega))
  (first | lia | omega)
local macro_rules | `(tactic| walk_at "binaryOp RShift int int") => `(tactic| refine Blk.out ?_)
local macro_rules | `(tactic| walk_at "inplaceOp RShift int int") => `(tactic| refine Blk.out ?_)
local macro_rules | `(tactic| walk_at "binaryOp LShift int int") => `(tactic| refine Blk.out ?_)
local macro_rules | `(tactic| walk_at "inplaceOp LShift int int") => `(tactic| refine Blk.out ?_)
local macro_rules | `(tactic| walk_at "binaryOp BitAnd int int") => `(tactic| refine Blk.out ?_)
local macro_rules | `(tactic| walk_at "binaryOp BitOr int int") => `(tactic| refine Blk.out ?_)
local macro_rules | `(tactic| walk_at "binaryOp Mult int int") => `(tactic| refine Blk.out ?_)
local macro_rules | `(tactic| walk_at "call ref") => `(tactic| refine Blk.out ?_)
/-- the answer is a tuple of quotient and rest -/
abbrev Ret2 (h₀ : Heap) (L : Addr) (m : Str → Option Value) (news : List (Addr × Obj)) (s : Shared) (Q : Value → Shared → Prop) (a b : Int) : Prop :=
  ∀ (q r : Int) (D : Addr) (t1 t2 : Tok) (c : Nat) (h' : Heap) (tk' : Nat), a = q * b + r → 0 ≤ r → r < b → Fr h₀ L h' m → News h₀ L h' ((D, ({ cls := .type "tuple", data := .seq #[.int q t1, .int r t2] c } : Obj)) :: news) → (∀ p ∈ news, p.1 < D) →
    Q (.ref D) { s with heap := h', toks := tk' }

abbrev CallC (w : World) (p : Program) (loose : List Str) (mean : ExcName → Option Value) (mg mb : Str → Option Value) (k e : Nat)
    (K : (dp un : Nat) → (gd : Option (List Code)) → (cn : Str) → (cs : Scope) → (ad : Addr) → (ccd : Value) → (cl : List (Str × Addr)) → (outer : List Env) → (h₀ : Heap) → (L : Addr) → (m : Str → Option Value) → (news : List (Addr × Obj)) → (s : Shared) → Prop) : Prop :=
  ∀ (dp un : Nat) (gd : Option (List Code)) (cn : Str) (cs : Scope) (ad : Addr) (ccd : Value) (cl : List (Str × Addr)) (outer : List Env) (A₀ : Around) (base h₀ : Heap) (L : Addr) (m : Str → Option Value) (news : List (Addr × Obj)) (s : Shared),
    Below A₀ base outer h₀ → Fr h₀ L s.heap m → (hd.heap_39 w.params).In h₀ → News h₀ L s.heap news → Top p loose mean mg mb h₀ → cs.kind = .function → dp + 2 * k + 2 + e < 900 → un + 20 * k + 20 + 3 * e < 9000 →
    K dp un gd cn cs ad ccd cl outer h₀ L m news s

def Div21 (prog : Program) (w : World) (p : Program) (loose : List Str) (mean : ExcName → Option Value) (mg mb : Str → Option Value) (k : Nat) : Prop :=
  ∀ (a b n : Int) (ta tb tn : Tok) (Q E : Value → Shared → Prop), 0 ≤ a → 0 < n → n ≤ 4000 * 2 ^ k → n ≤ 1000000 → 2 ^ (n.toNat - 1) ≤ b → b < 2 ^ n.toNat → a < 2 ^ n.toNat * b →
  CallC w p loose mean mg mb k 0 fun dp un gd cn cs ad ccd cl outer h₀ L m news s => Ret2 h₀ L m news s Q a b →
    wpAny (model prog w) (ktrTop dp un gd cn cs L ad ccd cl outer) (call (.ref 118) [.int a ta, .int b tb, .int n tn]) Q E s

def Div32 (prog : Program) (w : World) (p : Program) (loose : List Str) (mean : ExcName → Option Value) (mg mb : Str → Option Value) (k : Nat) : Prop :=
  ∀ (a12 a3 b b1 b2 n : Int) (t1 t2 t3 t4 t5 t6 : Tok) (Q E : Value → Shared → Prop), 0 ≤ a12 → a12 < b → 0 ≤ a3 → a3 < 2 ^ n.toNat → b = b1 * 2 ^ n.toNat + b2 → 0 ≤ b2 → b2 < 2 ^ n.toNat → 2 ^ (n.toNat - 1) ≤ b1 → b1 < 2 ^ n.toNat → 0 < n → n ≤ 4000 * 2 ^ k → n ≤ 1000000 →
  CallC w p loose mean mg mb k 1 fun dp un gd cn cs ad ccd cl outer h₀ L m news s => Ret2 h₀ L m news s Q (a12 * 2 ^ n.toNat + a3) b →
    wpAny (model prog w) (ktrTop dp un gd cn cs L ad ccd cl outer) (call (.ref 125) [.int a12 t1, .int a3 t2, .int b t3, .int b1 t4, .int b2 t5, .int n t6]) Q E s


section
variable {prog : Program} {w : World} {p : Program} {loose : List Str} {mean : ExcName → Option Value} {mg mb : Str → Option Value} {k : Nat}
  {dp un : Nat} {gd : Option (List Code)} {cn : Str} {cs : Scope} {ad : Addr} {ccd : Value} {cl : List (Str × Addr)} {outer : List Env} {A₀ : Around} {base h₀ : Heap} {L : Addr} {m : Str → Option Value} {news : List (Addr × Obj)} {s : Shared} {Q E : Value → Shared → Prop}
theorem use32 {a12 a3 b b1 b2 n : Int} {t1 t2 t3 t4 t5 t6 : Tok} (C : Div32 prog w p loose mean mg mb k)
    (hn : 0 < n ∧ n ≤ 4000 * 2 ^ k ∧ n ≤ 1000000) (ha : 0 ≤ a12 ∧ a12 < b ∧ 0 ≤ a3 ∧ a3 < 2 ^ n.toNat ∧ b = b1 * 2 ^ n.toNat + b2 ∧ 0 ≤ b2 ∧ b2 < 2 ^ n.toNat ∧ 2 ^ (n.toNat - 1) ≤ b1 ∧ b1 < 2 ^ n.toNat)
    (B : Below A₀ base outer h₀) (F : Fr h₀ L s.heap m) (X : (hd.heap_39 w.params).In h₀) (N : News h₀ L s.heap news) (T : Top p loose mean mg mb h₀) (hk : cs.kind = .function) (hd : dp + 2 * k + 3 < 900) (hu : un + 20 * k + 23 < 9000)
    (R : Ret2 h₀ L m news s Q (a12 * 2 ^ n.toNat + a3) b) :
    wpAny (model prog w) (ktrTop dp un gd cn cs L ad ccd cl outer) (call (.ref 125) [.int a12 t1, .int a3 t2, .int b t3, .int b1 t4, .int b2 t5, .int n t6]) Q E s := by
  obtain ⟨n1, n2, n3⟩ := hn
  obtain ⟨a1, a2, a3', a4, a5, a6, a7, a8, a9⟩ := ha
  exact C _ _ _ _ _ _ _ _ _ _ _ _ _ _ a1 a2 a3' a4 a5 a6 a7 a8 a9 n1 n2 n3 _ _ _ _ _ _ _ _ _ _ _ _ _ _ _ _ B F X N T hk hd hu R
theorem use21 {a b n : Int} {ta tb tn : Tok} (C : Div21 prog w p loose mean mg mb k)
    (hn : 0 < n ∧ n ≤ 4000 * 2 ^ k ∧ n ≤ 1000000) (ha : 0 ≤ a ∧ 2 ^ (n.toNat - 1) ≤ b ∧ b < 2 ^ n.toNat ∧ a < 2 ^ n.toNat * b)
    (B : Below A₀ base outer h₀) (F : Fr h₀ L s.heap m) (X : (hd.heap_39 w.params).In h₀) (N : News h₀ L s.heap news) (T : Top p loose mean mg mb h₀) (hk : cs.kind = .function) (hd : dp + 2 * k + 2 < 900) (hu : un + 20 * k + 20 < 9000)
    (R : Ret2 h₀ L m news s Q a b) :
    wpAny (model prog w) (ktrTop dp un gd cn cs L ad ccd cl outer) (call (.ref 118) [.int a ta, .int b tb, .int n tn]) Q E s := by
  obtain ⟨n1, n2, n3⟩ := hn
  obtain ⟨a1, a2, a3, a4⟩ := ha
  exact C _ _ _ _ _ _ _ _ a1 n1 n2 n3 a2 a3 a4 _ _ _ _ _ _ _ _ _ _ _ _ _ _ _ _ B F X N T hk hd hu R
end



theorem stDA1 {M A Q E s y0 y1 y2 y3 y4 y5 y6 y7 y8 y9 y10} (h : Blk (wpAny M A (execs (Stmt.If (Expr.Name y0 y1) (y2 :: y3 :: y4 :: y5) y6 y7 :: y8 :: y9) y10) Q E s)) : wpAny M A (execs (Stmt.If (Expr.Name y0 y1) (y2 :: y3 :: y4 :: y5) y6 y7 :: y8 :: y9) y10) Q E s := h
local macro_rules | `(tactic| walk_at "execs cons If") => `(tactic| with_reducible refine stDA1 ?_)
theorem div21_step {prog : Program} {w : World} {p : Program} {loose : List Str} {mean : ExcName → Option Value} {mg mb : Str → Option Value} (k : Nat) (C : ∀ j, k = j + 1 → Div32 prog w p loose mean mg mb j) : Div21 prog w p loose mean mg mb k := by
  intro a b n ta tb tn Q E ha hn hnk hn6 hb1 hb2 hab dp un gd cn cs ad ccd cl outer A₀ base h₀ L m news s B F X N T hk hd hu hret
  obtain ⟨hbits, hbits1, hb0, hbitsA⟩ := pad_bits hn ha hb1 hb2 hab
  refine wpAny_call ?_
  k_dflt ((refine' code_def ?k1_1 ?k2_1 ?k3_1 ?k4_1 ?k5_1 ?kA_1 ?kF_1 ?kK_1 ?k6_1 ?k7_1 ?k8_1 ?k9_1 ?kB_1 ?_ ?c2_1 ?c3_1 ?c4_1 ?c5_1; (case kA_1 => exact rfl); (case kF_1 => exact rfl); (case kK_1 => first | exact rfl | (first | with_reducible assumption | assumption)); (case k1_1 => k_asm); (case k2_1 => k_asm); (case k3_1 => k_asm); (case k4_1 => k_asm); (case k5_1 => k_asm); (case k6_1 => k_is); (case k7_1 => k_is); (case k8_1 => ktr_room); (case k9_1 => first | exact BindsTo.of_eq rfl | exact binds_K (by k_in) rfl (by k_is) rfl rfl rfl); (case c5_1 => decide); (case kB_1 => exact locs rfl); (case c2_1 => exact rfl); (case c3_1 => exact rfl); (case c4_1 => exact rfl); k_whole; intro g' L' h' FG' F' N' B' X' T'; (try dsimp only); (try k_lift B'); (try k_fold)))
  (repeat' (first | ((with_reducible refine Blk.into ?_); (first | (with_reducible ((show wpAny _ _ (binaryOp .RShift _ _) _ _ _); refine my_rshift (by first | (first | lia | omega) | (first | with_reducible assumption | assumption)) ?_; intro v hvx; (try simp only [show Int.toNat 1 = 1 from rfl, Int.pow_one] at hvx))) | (with_reducible ((show wpAny _ _ (inplaceOp .RShift _ _) _ _ _); refine my_irshift (by first | (first | lia | omega) | (first | with_reducible assumption | assumption)) ?_; intro v hvx; (try simp only [show Int.toNat 1 = 1 from rfl, Int.pow_one] at hvx))) | (with_reducible ((show wpAny _ _ (binaryOp .LShift (Value.int 1 _) _) _ _ _); refine lshift_int (by (first | lia | omega)) (by rw [bits_one]; (first | lia | omega)) ?_)) | (with_reducible ((show wpAny _ _ (binaryOp .LShift _ _) _ _ _); refine my_lshift (by first | (first | lia | omega) | (first | with_reducible assumption | assumption)) (by first | (first | lia | omega) | (first | with_reducible assumption | assumption)) ?_; intro v hvx; (try simp only [show Int.toNat 1 = 1 from rfl, Int.pow_one] at hvx))) | (with_reducible ((show wpAny _ _ (inplaceOp .LShift _ _) _ _ _); refine my_ilshift (by first | (first | lia | omega) | (first | with_reducible assumption | assumption)) (by first | (first | lia | omega) | (first | with_reducible assumption | assumption)) ?_; intro v hvx; (try simp only [show Int.toNat 1 = 1 from rfl, Int.pow_one] at hvx))) | (with_reducible ((show wpAny _ _ (binaryOp .BitAnd _ _) _ _ _); refine my_and ?_; intro v hvx; (try simp only [bitAnd_m1] at hvx))) | (with_reducible ((show wpAny _ _ (binaryOp .BitOr _ _) _ _ _); refine my_or ?_; intro v hvx)) | (with_reducible ((show wpAny _ _ (binaryOp .Mult _ _) _ _ _); refine my_mul (by first | (first | lia | omega) | (first | with_reducible assumption | assumption)) ?_)))) | (k_unfold; (try dsimp only)) | (k_end; wrow_close) | walk1 | (dsimp only; walk1) | (leave1; (try dsimp only))))
  · rename News _ _ _ _ => N9
    have hlt := fun p hp => Heap.lt_size (N9 p hp).1
    refine divmod_N (by k_asm) (by k_asm) (by (first | lia | omega)) ?_ (Or.inl (noPy (by (first | lia | omega))))
    (repeat' (first | ((with_reducible refine Blk.into ?_); (first | (with_reducible ((show wpAny _ _ (binaryOp .RShift _ _) _ _ _); refine my_rshift (by first | (first | lia | omega) | (first | with_reducible assumption | assumption)) ?_; intro v hvx; (try simp only [show Int.toNat 1 = 1 from rfl, Int.pow_one] at hvx))) | (with_reducible ((show wpAny _ _ (inplaceOp .RShift _ _) _ _ _); refine my_irshift (by first | (first | lia | omega) | (first | with_reducible assumption | assumption)) ?_; intro v hvx; (try simp only [show Int.toNat 1 = 1 from rfl, Int.pow_one] at hvx))) | (with_reducible ((show wpAny _ _ (binaryOp .LShift (Value.int 1 _) _) _ _ _); refine lshift_int (by (first | lia | omega)) (by rw [bits_one]; (first | lia | omega)) ?_)) | (with_reducible ((show wpAny _ _ (binaryOp .LShift _ _) _ _ _); refine my_lshift (by first | (first | lia | omega) | (first | with_reducible assumption | assumption)) (by first | (first | lia | omega) | (first | with_reducible assumption | assumption)) ?_; intro v hvx; (try simp only [show Int.toNat 1 = 1 from rfl, Int.pow_one] at hvx))) | (with_reducible ((show wpAny _ _ (inplaceOp .LShift _ _) _ _ _); refine my_ilshift (by first | (first | lia | omega) | (first | with_reducible assumption | assumption)) (by first | (first | lia | omega) | (first | with_reducible assumption | assumption)) ?_; intro v hvx; (try simp only [show Int.toNat 1 = 1 from rfl, Int.pow_one] at hvx))) | (with_reducible ((show wpAny _ _ (binaryOp .BitAnd _ _) _ _ _); refine my_and ?_; intro v hvx; (try simp only [bitAnd_m1] at hvx))) | (with_reducible ((show wpAny _ _ (binaryOp .BitOr _ _) _ _ _); refine my_or ?_; intro v hvx)) | (with_reducible ((show wpAny _ _ (binaryOp .Mult _ _) _ _ _); refine my_mul (by first | (first | lia | omega) | (first | with_reducible assumption | assumption)) ?_)))) | (k_unfold; (try dsimp only)) | (k_end; wrow_close) | walk1 | (dsimp only; walk1) | (leave1; (try dsimp only))))
    have hdm := dm_facts (a := a) hb0
    exact hret _ _ _ _ _ _ _ _ hdm.1 hdm.2.1 hdm.2.2 (by with_reducible assumption) (by with_reducible assumption) hlt
  · obtain ⟨j, rfl⟩ : ∃ j, k = j + 1 := by
      cases k with
      | zero => (first | lia | omega)
      | succ j => exact ⟨j, rfl⟩
    have CC := C j rfl
    have hpw : (4000 : Int) * 2 ^ (j + 1) = 2 * (4000 * 2 ^ j) := by rw [pow_succ']; (first | lia | omega)
    refine Blk.into ?_
    rename _ = n % 2 => hpad
    subst hpad
    let Jc : Heap → Prop := fun h' => ∀ G : Prop, (∀ (m' : Str → Option Value) (a' b' n' : Int) (ta' tb' tn' tp' : Tok), Fr g' L' h' m' → News g' L' h' news → NmAre m' [("a", .int a' ta'), ("b", .int b' tb'), ("n", .int n' tn'), ("pad", .int (n % 2) tp')] → Pad a b n (n % 2) a' b' n' → n' % 2 = 0 → G) → G
    with_reducible refine Jn.ckpt 1 Jc ?_ ?_
    · dsimp only [List.take]
      k_fold
      (repeat' (first | ((with_reducible refine Blk.into ?_); (first | (with_reducible ((show wpAny _ _ (binaryOp .RShift _ _) _ _ _); refine my_rshift (by first | (first | lia | omega) | (first | with_reducible assumption | assumption)) ?_; intro v hvx; (try simp only [show Int.toNat 1 = 1 from rfl, Int.pow_one] at hvx))) | (with_reducible ((show wpAny _ _ (inplaceOp .RShift _ _) _ _ _); refine my_irshift (by first | (first | lia | omega) | (first | with_reducible assumption | assumption)) ?_; intro v hvx; (try simp only [show Int.toNat 1 = 1 from rfl, Int.pow_one] at hvx))) | (with_reducible ((show wpAny _ _ (binaryOp .LShift (Value.int 1 _) _) _ _ _); refine lshift_int (by (first | lia | omega)) (by rw [bits_one]; (first | lia | omega)) ?_)) | (with_reducible ((show wpAny _ _ (binaryOp .LShift _ _) _ _ _); refine my_lshift (by first | (first | lia | omega) | (first | with_reducible assumption | assumption)) (by first | (first | lia | omega) | (first | with_reducible assumption | assumption)) ?_; intro v hvx; (try simp only [show Int.toNat 1 = 1 from rfl, Int.pow_one] at hvx))) | (with_reducible ((show wpAny _ _ (inplaceOp .LShift _ _) _ _ _); refine my_ilshift (by first | (first | lia | omega) | (first | with_reducible assumption | assumption)) (by first | (first | lia | omega) | (first | with_reducible assumption | assumption)) ?_; intro v hvx; (try simp only [show Int.toNat 1 = 1 from rfl, Int.pow_one] at hvx))) | (with_reducible ((show wpAny _ _ (binaryOp .BitAnd _ _) _ _ _); refine my_and ?_; intro v hvx; (try simp only [bitAnd_m1] at hvx))) | (with_reducible ((show wpAny _ _ (binaryOp .BitOr _ _) _ _ _); refine my_or ?_; intro v hvx)) | (with_reducible ((show wpAny _ _ (binaryOp .Mult _ _) _ _ _); refine my_mul (by first | (first | lia | omega) | (first | with_reducible assumption | assumption)) ?_)))) | (k_unfold; (try dsimp only)) | (k_end; wrow_close) | walk1 | (dsimp only; walk1) | (leave1; (try dsimp only))))
      · (refine ⟨_, _, rfl, ?_⟩; intro G k; exact k _ _ _ _ _ _ _ _ (by k_asm) (by k_asm) (by repeat (first | exact nm_nil | refine nm_cons (by with_unfolding_all rfl) ?_)) (.inr ⟨by (first | lia | omega), (by with_reducible assumption), (by with_reducible assumption), rfl⟩) (by (first | lia | omega)))
      · (refine ⟨_, _, rfl, ?_⟩; intro G k; exact k _ _ _ _ _ _ _ _ (by k_asm) (by k_asm) (by repeat (first | exact nm_nil | refine nm_cons (by with_unfolding_all rfl) ?_)) (.inl ⟨by (first | lia | omega), rfl, rfl, rfl⟩) (by (first | lia | omega)))
    intro h2 tk2 hJ
    with_reducible refine hJ _ ?_
    clear hJ Jc
    intro m2 a' b' n' ta' tb' tn' tp' F2 N2 M2 hp hne
    with_reducible refine fr_fold F2 M2 ?_
    clear F2 M2
    intro mm F2
    obtain ⟨p1, p2, p3, p4, p5, p6⟩ := pad_facts hp hn ha hb1 hb2 hab
    obtain ⟨q1', q2', q3', q4'⟩ := pad_bits (by (first | lia | omega)) p1 p2 p3 p4
    dsimp only [List.drop]
    (repeat' (first | ((with_reducible refine Blk.into ?_); (first | (with_reducible ((show wpAny _ _ (binaryOp .RShift _ _) _ _ _); refine my_rshift (by first | (first | lia | omega) | (first | with_reducible assumption | assumption)) ?_; intro v hvx; (try simp only [show Int.toNat 1 = 1 from rfl, Int.pow_one] at hvx))) | (with_reducible ((show wpAny _ _ (inplaceOp .RShift _ _) _ _ _); refine my_irshift (by first | (first | lia | omega) | (first | with_reducible assumption | assumption)) ?_; intro v hvx; (try simp only [show Int.toNat 1 = 1 from rfl, Int.pow_one] at hvx))) | (with_reducible ((show wpAny _ _ (binaryOp .LShift (Value.int 1 _) _) _ _ _); refine lshift_int (by (first | lia | omega)) (by rw [bits_one]; (first | lia | omega)) ?_)) | (with_reducible ((show wpAny _ _ (binaryOp .LShift _ _) _ _ _); refine my_lshift (by first | (first | lia | omega) | (first | with_reducible assumption | assumption)) (by first | (first | lia | omega) | (first | with_reducible assumption | assumption)) ?_; intro v hvx; (try simp only [show Int.toNat 1 = 1 from rfl, Int.pow_one] at hvx))) | (with_reducible ((show wpAny _ _ (inplaceOp .LShift _ _) _ _ _); refine my_ilshift (by first | (first | lia | omega) | (first | with_reducible assumption | assumption)) (by first | (first | lia | omega) | (first | with_reducible assumption | assumption)) ?_; intro v hvx; (try simp only [show Int.toNat 1 = 1 from rfl, Int.pow_one] at hvx))) | (with_reducible ((show wpAny _ _ (binaryOp .BitAnd _ _) _ _ _); refine my_and ?_; intro v hvx; (try simp only [bitAnd_m1] at hvx))) | (with_reducible ((show wpAny _ _ (binaryOp .BitOr _ _) _ _ _); refine my_or ?_; intro v hvx)) | (with_reducible ((show wpAny _ _ (binaryOp .Mult _ _) _ _ _); refine my_mul (by first | (first | lia | omega) | (first | with_reducible assumption | assumption)) ?_)))) | (k_unfold; (try dsimp only)) | (k_end; wrow_close) | walk1 | (dsimp only; walk1) | (leave1; (try dsimp only))))
    rename _ = n' / 2 => hh
    rename _ = _ / 2 ^ n'.toNat => hv12
    rename _ = Builtin.bitAnd _ _ => hv3
    have hh2 := half_of hh hne
    have D := d21a hh2 (by (first | lia | omega)) p1 p2 p3 p4 rfl hv12 (by with_reducible assumption) hv3 (by with_reducible assumption) (by with_reducible assumption)
    refine Blk.into ?_
    k_dflt (refine use32 (by (first | with_reducible assumption | assumption)) (by (first | lia | omega)) ⟨D.1, D.2.1, D.2.2.1, D.2.2.2.1, D.2.2.2.2.1, D.2.2.2.2.2.1, D.2.2.2.2.2.2.1, D.2.2.2.2.2.2.2.1, D.2.2.2.2.2.2.2.2.1⟩ (by k_asm) (by k_asm) (by k_asm) (by k_asm) (by k_asm) (by first | exact rfl | (first | with_reducible assumption | assumption)) (by (simp only [depth_deeper, ktrTop]; (first | lia | omega))) (by (simp only [units_deeper, ktrTop]; (first | lia | omega))) ?_)
    intro q1 r1 D1 t1 t2 c1 h1 tk1 e1 r10 r11 F1 N1 l1
    have Z1 := d21z D.1 D.2.1 D.2.2.1 D.2.2.2.1 e1 r10 r11
    rw [D.2.2.2.2.2.2.2.2.2] at e1
    (repeat' (first | ((with_reducible refine Blk.into ?_); (first | (with_reducible ((show wpAny _ _ (binaryOp .RShift _ _) _ _ _); refine my_rshift (by first | (first | lia | omega) | (first | with_reducible assumption | assumption)) ?_; intro v hvx; (try simp only [show Int.toNat 1 = 1 from rfl, Int.pow_one] at hvx))) | (with_reducible ((show wpAny _ _ (inplaceOp .RShift _ _) _ _ _); refine my_irshift (by first | (first | lia | omega) | (first | with_reducible assumption | assumption)) ?_; intro v hvx; (try simp only [show Int.toNat 1 = 1 from rfl, Int.pow_one] at hvx))) | (with_reducible ((show wpAny _ _ (binaryOp .LShift (Value.int 1 _) _) _ _ _); refine lshift_int (by (first | lia | omega)) (by rw [bits_one]; (first | lia | omega)) ?_)) | (with_reducible ((show wpAny _ _ (binaryOp .LShift _ _) _ _ _); refine my_lshift (by first | (first | lia | omega) | (first | with_reducible assumption | assumption)) (by first | (first | lia | omega) | (first | with_reducible assumption | assumption)) ?_; intro v hvx; (try simp only [show Int.toNat 1 = 1 from rfl, Int.pow_one] at hvx))) | (with_reducible ((show wpAny _ _ (inplaceOp .LShift _ _) _ _ _); refine my_ilshift (by first | (first | lia | omega) | (first | with_reducible assumption | assumption)) (by first | (first | lia | omega) | (first | with_reducible assumption | assumption)) ?_; intro v hvx; (try simp only [show Int.toNat 1 = 1 from rfl, Int.pow_one] at hvx))) | (with_reducible ((show wpAny _ _ (binaryOp .BitAnd _ _) _ _ _); refine my_and ?_; intro v hvx; (try simp only [bitAnd_m1] at hvx))) | (with_reducible ((show wpAny _ _ (binaryOp .BitOr _ _) _ _ _); refine my_or ?_; intro v hvx)) | (with_reducible ((show wpAny _ _ (binaryOp .Mult _ _) _ _ _); refine my_mul (by first | (first | lia | omega) | (first | with_reducible assumption | assumption)) ?_)))) | (k_unfold; (try dsimp only)) | (k_end; wrow_close) | walk1 | (dsimp only; walk1) | (leave1; (try dsimp only))))
    rename _ = Builtin.bitAnd _ _ => hv3
    have D3 := d21a3 p1 hv3
    refine Blk.into ?_
    k_dflt (refine use32 (by (first | with_reducible assumption | assumption)) (by (first | lia | omega)) ⟨r10, r11, D3.1, D3.2, D.2.2.2.2.1, D.2.2.2.2.2.1, D.2.2.2.2.2.2.1, D.2.2.2.2.2.2.2.1, D.2.2.2.2.2.2.2.2.1⟩ (by k_asm) (by k_asm) (by k_asm) (by k_asm) (by k_asm) (by first | exact rfl | (first | with_reducible assumption | assumption)) (by (simp only [depth_deeper, ktrTop]; (first | lia | omega))) (by (simp only [units_deeper, ktrTop]; (first | lia | omega))) ?_)
    intro q2 r2 D2 t3 t4 c2 h2 tk2 e2 r20 r21 F2 N2 l2
    have Z3 := bits_le Z1.1 Z1.2
    (repeat' (first | ((with_reducible refine Blk.into ?_); (first | (with_reducible ((show wpAny _ _ (binaryOp .RShift _ _) _ _ _); refine my_rshift (by first | (first | lia | omega) | (first | with_reducible assumption | assumption)) ?_; intro v hvx; (try simp only [show Int.toNat 1 = 1 from rfl, Int.pow_one] at hvx))) | (with_reducible ((show wpAny _ _ (inplaceOp .RShift _ _) _ _ _); refine my_irshift (by first | (first | lia | omega) | (first | with_reducible assumption | assumption)) ?_; intro v hvx; (try simp only [show Int.toNat 1 = 1 from rfl, Int.pow_one] at hvx))) | (with_reducible ((show wpAny _ _ (binaryOp .LShift (Value.int 1 _) _) _ _ _); refine lshift_int (by (first | lia | omega)) (by rw [bits_one]; (first | lia | omega)) ?_)) | (with_reducible ((show wpAny _ _ (binaryOp .LShift _ _) _ _ _); refine my_lshift (by first | (first | lia | omega) | (first | with_reducible assumption | assumption)) (by first | (first | lia | omega) | (first | with_reducible assumption | assumption)) ?_; intro v hvx; (try simp only [show Int.toNat 1 = 1 from rfl, Int.pow_one] at hvx))) | (with_reducible ((show wpAny _ _ (inplaceOp .LShift _ _) _ _ _); refine my_ilshift (by first | (first | lia | omega) | (first | with_reducible assumption | assumption)) (by first | (first | lia | omega) | (first | with_reducible assumption | assumption)) ?_; intro v hvx; (try simp only [show Int.toNat 1 = 1 from rfl, Int.pow_one] at hvx))) | (with_reducible ((show wpAny _ _ (binaryOp .BitAnd _ _) _ _ _); refine my_and ?_; intro v hvx; (try simp only [bitAnd_m1] at hvx))) | (with_reducible ((show wpAny _ _ (binaryOp .BitOr _ _) _ _ _); refine my_or ?_; intro v hvx)) | (with_reducible ((show wpAny _ _ (binaryOp .Mult _ _) _ _ _); refine my_mul (by first | (first | lia | omega) | (first | with_reducible assumption | assumption)) ?_)))) | (k_unfold; (try dsimp only)) | (k_end; wrow_close) | walk1 | (dsimp only; walk1) | (leave1; (try dsimp only))))
    · rcases hp with ⟨h0, _⟩ | ⟨_, ha', hb', _⟩
      · exfalso; (first | lia | omega)
      · have W := d21b (by (first | lia | omega)) p1 (by (first | lia | omega)) rfl e1 r10 r11 hv3 e2 r20 r21 (by with_reducible assumption) (by with_reducible assumption)
        have U := d21unpad ha' hb' W r20 r21 (by with_reducible assumption)
        exact hret _ _ _ _ _ _ _ _ U.1 U.2.1 U.2.2 (by with_reducible assumption) (by first | with_reducible assumption | ((rename News _ _ _ _ => dN); first | exact nd1 dN | exact nd1 (nd1 dN) | exact nd1 (nd1 (nd1 dN)) | exact nd1 (nd1 (nd1 (nd1 dN))))) (by ((rename _ < _ ∧ _ => dL); exact allLt_mem (by first | exact dL | exact dL.2 | exact dL.2.2 | exact dL.2.2.2 | exact dL.2.2.2.2 | exact dL.2.2.2.2.2)))
    · rcases hp with ⟨_, ha', hb', _⟩ | ⟨h0, _⟩
      · have W := d21b (by (first | lia | omega)) p1 (by (first | lia | omega)) rfl e1 r10 r11 hv3 e2 r20 r21 (by with_reducible assumption) (by with_reducible assumption)
        rw [ha', hb'] at W
        rw [hb'] at r21
        exact hret _ _ _ _ _ _ _ _ W r20 r21 (by with_reducible assumption) (by first | with_reducible assumption | ((rename News _ _ _ _ => dN); first | exact nd1 dN | exact nd1 (nd1 dN) | exact nd1 (nd1 (nd1 dN)) | exact nd1 (nd1 (nd1 (nd1 dN))))) (by ((rename _ < _ ∧ _ => dL); exact allLt_mem (by first | exact dL | exact dL.2 | exact dL.2.2 | exact dL.2.2.2 | exact dL.2.2.2.2 | exact dL.2.2.2.2.2)))
      · exfalso; (first | lia | omega)
end Mine01
end
namespace Mine01
theorem rest5 : True ∧ True := by w_top off; first | (walk1; all_goals trivial) | exact ⟨trivial, trivial⟩
end Mine01

section
namespace Mine01
open DivM

local macro_rules | `(tactic| walk_at "binaryOp RShift int int") => `(tactic| refine Blk.out ?_)
local macro_rules | `(tactic| walk_at "inplaceOp RShift int int") => `(tactic| refine Blk.out ?_)
local macro_rules | `(tactic| walk_at "binaryOp LShift int int") => `(tactic| refine Blk.out ?_)
local macro_rules | `(tactic| walk_at "inplaceOp LShift int int") => `(tactic| refine Blk.out ?_)
local macro_rules | `(tactic| walk_at "binaryOp BitAnd int int") => `(tactic| refine Blk.out ?_)
local macro_rules | `(tactic| walk_at "binaryOp BitOr int int") => `(tactic| refine Blk.out ?_)
local macro_rules | `(tactic| walk_at "binaryOp Mult int int") => `(tactic| refine Blk.out ?_)
local macro_rules | `(tactic| walk_at "call ref") => `(tactic| refine Blk.out ?_)
local macro_rules | `(tactic| walk_at "exec While Compare cons nil") => `(tactic| refine Blk.out ?_)




theorem div32_step {prog : Program} {w : World} {p : Program} {loose : List Str} {mean : ExcName → Option Value} {mg mb : Str → Option Value} (k : Nat) (C : Div21 prog w p loose mean mg mb k) : Div32 prog w p loose mean mg mb k := by
  intro a12 a3 b b1 b2 n t1 t2 t3 t4 t5 t6 Q E ha0 ha1 ha2 ha3 hb hb2 hb2' hb1 hb1' hn hnk hn6 dp un gd cn cs ad ccd cl outer A₀ base h₀ L m news s B F X N T hk hd hu hret
  have hp := two_pow_pos n.toNat
  have z1 : (Builtin.Int.intBits b1 : Int) ≤ n := by have := bits_le (a := b1) (m := n.toNat) (by have := two_pow_pos (n.toNat - 1); (first | lia | omega)) hb1'; (first | lia | omega)
  have hb0 : 0 < b1 := by have := two_pow_pos (n.toNat - 1); (first | lia | omega)
  have zb2 : (Builtin.Int.intBits b2 : Int) ≤ n := by have := bits_le (a := b2) (m := n.toNat) hb2 hb2'; (first | lia | omega)
  have zq : (Builtin.Int.intBits (1 * 2 ^ n.toNat - 1) : Int) ≤ n := by have := bits_le (a := 1 * 2 ^ n.toNat - 1) (m := n.toNat) (by (first | lia | omega)) (by (first | lia | omega)); (first | lia | omega)
  refine wpAny_call ?_
  k_dflt ktr_enter
  (repeat' (first | ((with_reducible refine Blk.into ?_); (first | (with_reducible ((show wpAny _ _ (binaryOp .RShift _ _) _ _ _); refine my_rshift (by first | exact d3sz (by with_reducible assumption) (by with_reducible assumption) (by with_reducible assumption) (by with_reducible assumption) (by with_reducible assumption) (by with_reducible assumption) (by with_reducible assumption) | (first | lia | omega) | assumption) ?_; intro v hvx; (try simp only [show Int.toNat 1 = 1 from rfl, Int.pow_one] at hvx))) | (with_reducible ((show wpAny _ _ (inplaceOp .RShift _ _) _ _ _); refine my_irshift (by first | exact d3sz (by with_reducible assumption) (by with_reducible assumption) (by with_reducible assumption) (by with_reducible assumption) (by with_reducible assumption) (by with_reducible assumption) (by with_reducible assumption) | (first | lia | omega) | assumption) ?_; intro v hvx; (try simp only [show Int.toNat 1 = 1 from rfl, Int.pow_one] at hvx))) | (with_reducible ((show wpAny _ _ (binaryOp .LShift (Value.int 1 _) _) _ _ _); refine lshift_int (by (first | lia | omega)) (by rw [bits_one]; (first | lia | omega)) ?_)) | (with_reducible ((show wpAny _ _ (binaryOp .LShift _ _) _ _ _); refine my_lshift (by first | exact d3sz (by with_reducible assumption) (by with_reducible assumption) (by with_reducible assumption) (by with_reducible assumption) (by with_reducible assumption) (by with_reducible assumption) (by with_reducible assumption) | (first | lia | omega) | assumption) (by first | exact d3sz (by with_reducible assumption) (by with_reducible assumption) (by with_reducible assumption) (by with_reducible assumption) (by with_reducible assumption) (by with_reducible assumption) (by with_reducible assumption) | (first | lia | omega) | assumption) ?_; intro v hvx; (try simp only [show Int.toNat 1 = 1 from rfl, Int.pow_one] at hvx))) | (with_reducible ((show wpAny _ _ (inplaceOp .LShift _ _) _ _ _); refine my_ilshift (by first | exact d3sz (by with_reducible assumption) (by with_reducible assumption) (by with_reducible assumption) (by with_reducible assumption) (by with_reducible assumption) (by with_reducible assumption) (by with_reducible assumption) | (first | lia | omega) | assumption) (by first | exact d3sz (by with_reducible assumption) (by with_reducible assumption) (by with_reducible assumption) (by with_reducible assumption) (by with_reducible assumption) (by with_reducible assumption) (by with_reducible assumption) | (first | lia | omega) | assumption) ?_; intro v hvx; (try simp only [show Int.toNat 1 = 1 from rfl, Int.pow_one] at hvx))) | (with_reducible ((show wpAny _ _ (binaryOp .BitAnd _ _) _ _ _); refine my_and ?_; intro v hvx; (try simp only [bitAnd_m1] at hvx))) | (with_reducible ((show wpAny _ _ (binaryOp .BitOr _ _) _ _ _); refine my_or ?_; intro v hvx)) | (with_reducible ((show wpAny _ _ (binaryOp .Mult _ _) _ _ _); refine my_mul (by first | exact d3sz (by with_reducible assumption) (by with_reducible assumption) (by with_reducible assumption) (by with_reducible assumption) (by with_reducible assumption) (by with_reducible assumption) (by with_reducible assumption) | (first | lia | omega) | assumption) ?_)))) | (k_unfold; (try dsimp only)) | (k_end; wrow_close) | walk1 | (dsimp only; walk1) | (leave1; (try dsimp only))))
  · rename _ = a12 / 2 ^ n.toNat => hv1
    rename _ = b1 * 2 ^ n.toNat => hv
    have e1 := d3e1 (a12 := a12) hv
    have r1 := d3r0 hb0 hv1 (by with_reducible assumption) hv
    have hA := d3in ha2 ha3 hb e1 r1 (by with_reducible assumption) (by with_reducible assumption)
    have hlt := d3lt1 ha3 ha1 hA
    refine Blk.into ?_
    rename Fr _ _ _ _ => FW
    rename News _ _ _ _ => NW
    with_unfolding_all refine' my_while (fun (i : Nat) m₁ => ∃ (q r : Int) (tq tr : Tok), m₁ "q" = some (.int q tq) ∧ m₁ "r" = some (.int r tr) ∧ m₁ "b" = some (.int b t3) ∧ a12 * 2 ^ n.toNat + a3 = q * b + r ∧ r < b ∧ i = (-r).toNat) ?kF ?kN ?hJ ?hE ?_
    case kF => exact FW
    case kN => exact NW
    case hE => first | passes_own | with_unfolding_all passes_own
    case hJ => exact ⟨_, _, _, _, by with_unfolding_all rfl, by with_unfolding_all rfl, by with_unfolding_all rfl, hA, hlt, rfl⟩
    clear FW NW
    rintro i m₁ hW tkW F₁ N₁ ⟨q, r, tq, tr, hq, hr, hbm, hAe, hrb, rfl⟩
    have F₂ := fr_named [(("q" : Str), Value.int q tq), ("r", .int r tr), ("b", .int b t3)] (by intro p hp; simp only [List.mem_cons, List.not_mem_nil, or_false] at hp; rcases hp with rfl | rfl | rfl <;> assumption) F₁
    clear F₁
    (repeat' (first | ((with_reducible refine Blk.into ?_); (first | (with_reducible ((show wpAny _ _ (binaryOp .RShift _ _) _ _ _); refine my_rshift (by first | exact d3sz (by with_reducible assumption) (by with_reducible assumption) (by with_reducible assumption) (by with_reducible assumption) (by with_reducible assumption) (by with_reducible assumption) (by with_reducible assumption) | (first | lia | omega) | assumption) ?_; intro v hvx; (try simp only [show Int.toNat 1 = 1 from rfl, Int.pow_one] at hvx))) | (with_reducible ((show wpAny _ _ (inplaceOp .RShift _ _) _ _ _); refine my_irshift (by first | exact d3sz (by with_reducible assumption) (by with_reducible assumption) (by with_reducible assumption) (by with_reducible assumption) (by with_reducible assumption) (by with_reducible assumption) (by with_reducible assumption) | (first | lia | omega) | assumption) ?_; intro v hvx; (try simp only [show Int.toNat 1 = 1 from rfl, Int.pow_one] at hvx))) | (with_reducible ((show wpAny _ _ (binaryOp .LShift (Value.int 1 _) _) _ _ _); refine lshift_int (by (first | lia | omega)) (by rw [bits_one]; (first | lia | omega)) ?_)) | (with_reducible ((show wpAny _ _ (binaryOp .LShift _ _) _ _ _); refine my_lshift (by first | exact d3sz (by with_reducible assumption) (by with_reducible assumption) (by with_reducible assumption) (by with_reducible assumption) (by with_reducible assumption) (by with_reducible assumption) (by with_reducible assumption) | (first | lia | omega) | assumption) (by first | exact d3sz (by with_reducible assumption) (by with_reducible assumption) (by with_reducible assumption) (by with_reducible assumption) (by with_reducible assumption) (by with_reducible assumption) (by with_reducible assumption) | (first | lia | omega) | assumption) ?_; intro v hvx; (try simp only [show Int.toNat 1 = 1 from rfl, Int.pow_one] at hvx))) | (with_reducible ((show wpAny _ _ (inplaceOp .LShift _ _) _ _ _); refine my_ilshift (by first | exact d3sz (by with_reducible assumption) (by with_reducible assumption) (by with_reducible assumption) (by with_reducible assumption) (by with_reducible assumption) (by with_reducible assumption) (by with_reducible assumption) | (first | lia | omega) | assumption) (by first | exact d3sz (by with_reducible assumption) (by with_reducible assumption) (by with_reducible assumption) (by with_reducible assumption) (by with_reducible assumption) (by with_reducible assumption) (by with_reducible assumption) | (first | lia | omega) | assumption) ?_; intro v hvx; (try simp only [show Int.toNat 1 = 1 from rfl, Int.pow_one] at hvx))) | (with_reducible ((show wpAny _ _ (binaryOp .BitAnd _ _) _ _ _); refine my_and ?_; intro v hvx; (try simp only [bitAnd_m1] at hvx))) | (with_reducible ((show wpAny _ _ (binaryOp .BitOr _ _) _ _ _); refine my_or ?_; intro v hvx)) | (with_reducible ((show wpAny _ _ (binaryOp .Mult _ _) _ _ _); refine my_mul (by first | exact d3sz (by with_reducible assumption) (by with_reducible assumption) (by with_reducible assumption) (by with_reducible assumption) (by with_reducible assumption) (by with_reducible assumption) (by with_reducible assumption) | (first | lia | omega) | assumption) ?_)))) | (k_unfold; (try dsimp only)) | (k_end; wrow_close) | walk1 | (dsimp only; walk1) | (leave1; (try dsimp only))))
    · refine ⟨_, _, _, _, _, rfl, by with_reducible assumption, by with_reducible assumption, ?_, rfl, q - 1, r + b, _, _, by with_unfolding_all rfl, by with_unfolding_all rfl, by with_unfolding_all rfl, d3turn hAe, by (first | lia | omega), rfl⟩
      (first | lia | omega)
    · exact hret _ _ _ _ _ _ _ _ hAe (by (first | lia | omega)) hrb (by with_reducible assumption) (by first | with_reducible assumption | ((rename News _ _ _ _ => dN); first | exact nd1 dN | exact nd1 (nd1 dN) | exact nd1 (nd1 (nd1 dN)) | exact nd1 (nd1 (nd1 (nd1 dN))))) (by ((rename _ < _ ∧ _ => dL); exact allLt_mem (by first | exact dL | exact dL.2 | exact dL.2.2 | exact dL.2.2.2 | exact dL.2.2.2.2 | exact dL.2.2.2.2.2)))
  · have zr := d3a hb hb2 hb2' ha0 ha1 _ (by with_reducible assumption)
    refine Blk.into ?_
    k_dflt (refine use21 (by (first | with_reducible assumption | assumption)) (by (first | lia | omega)) ⟨ha0, hb1, hb1', zr.2 (by with_reducible assumption)⟩ (by k_asm) (by k_asm) (by k_asm) (by k_asm) (by k_asm) (by first | exact rfl | (first | with_reducible assumption | assumption)) (by (simp only [depth_deeper, ktrTop]; (first | lia | omega))) (by (simp only [units_deeper, ktrTop]; (first | lia | omega))) ?_)
    intro q1 r1 D1 t1 t2 c1 h1 tk1 e1 r10 r11 F1 N1 l1
    have Z1 := d21c (h := 0) (by (first | lia | omega)) e1 r10 r11 ha0 (zr.2 (by with_reducible assumption))
    have zq1 := bits_le Z1.1 Z1.2
    have zr1 := bits_le (a := r1) (m := n.toNat) r10 (by (first | lia | omega))
    (repeat' (first | ((with_reducible refine Blk.into ?_); (first | (with_reducible ((show wpAny _ _ (binaryOp .RShift _ _) _ _ _); refine my_rshift (by first | exact d3sz (by with_reducible assumption) (by with_reducible assumption) (by with_reducible assumption) (by with_reducible assumption) (by with_reducible assumption) (by with_reducible assumption) (by with_reducible assumption) | (first | lia | omega) | assumption) ?_; intro v hvx; (try simp only [show Int.toNat 1 = 1 from rfl, Int.pow_one] at hvx))) | (with_reducible ((show wpAny _ _ (inplaceOp .RShift _ _) _ _ _); refine my_irshift (by first | exact d3sz (by with_reducible assumption) (by with_reducible assumption) (by with_reducible assumption) (by with_reducible assumption) (by with_reducible assumption) (by with_reducible assumption) (by with_reducible assumption) | (first | lia | omega) | assumption) ?_; intro v hvx; (try simp only [show Int.toNat 1 = 1 from rfl, Int.pow_one] at hvx))) | (with_reducible ((show wpAny _ _ (binaryOp .LShift (Value.int 1 _) _) _ _ _); refine lshift_int (by (first | lia | omega)) (by rw [bits_one]; (first | lia | omega)) ?_)) | (with_reducible ((show wpAny _ _ (binaryOp .LShift _ _) _ _ _); refine my_lshift (by first | exact d3sz (by with_reducible assumption) (by with_reducible assumption) (by with_reducible assumption) (by with_reducible assumption) (by with_reducible assumption) (by with_reducible assumption) (by with_reducible assumption) | (first | lia | omega) | assumption) (by first | exact d3sz (by with_reducible assumption) (by with_reducible assumption) (by with_reducible assumption) (by with_reducible assumption) (by with_reducible assumption) (by with_reducible assumption) (by with_reducible assumption) | (first | lia | omega) | assumption) ?_; intro v hvx; (try simp only [show Int.toNat 1 = 1 from rfl, Int.pow_one] at hvx))) | (with_reducible ((show wpAny _ _ (inplaceOp .LShift _ _) _ _ _); refine my_ilshift (by first | exact d3sz (by with_reducible assumption) (by with_reducible assumption) (by with_reducible assumption) (by with_reducible assumption) (by with_reducible assumption) (by with_reducible assumption) (by with_reducible assumption) | (first | lia | omega) | assumption) (by first | exact d3sz (by with_reducible assumption) (by with_reducible assumption) (by with_reducible assumption) (by with_reducible assumption) (by with_reducible assumption) (by with_reducible assumption) (by with_reducible assumption) | (first | lia | omega) | assumption) ?_; intro v hvx; (try simp only [show Int.toNat 1 = 1 from rfl, Int.pow_one] at hvx))) | (with_reducible ((show wpAny _ _ (binaryOp .BitAnd _ _) _ _ _); refine my_and ?_; intro v hvx; (try simp only [bitAnd_m1] at hvx))) | (with_reducible ((show wpAny _ _ (binaryOp .BitOr _ _) _ _ _); refine my_or ?_; intro v hvx)) | (with_reducible ((show wpAny _ _ (binaryOp .Mult _ _) _ _ _); refine my_mul (by first | exact d3sz (by with_reducible assumption) (by with_reducible assumption) (by with_reducible assumption) (by with_reducible assumption) (by with_reducible assumption) (by with_reducible assumption) (by with_reducible assumption) | (first | lia | omega) | assumption) ?_)))) | (k_unfold; (try dsimp only)) | (k_end; wrow_close) | walk1 | (dsimp only; walk1) | (leave1; (try dsimp only))))
    have hA := d3in ha2 ha3 hb e1 r10 (by with_reducible assumption) (by with_reducible assumption)
    have hlt := d3lt2 ha2 ha3 hb hb2 Z1.1 r10 r11 (by with_reducible assumption) (by with_reducible assumption)
    refine Blk.into ?_
    rename Fr _ _ _ _ => FW
    rename News _ _ _ _ => NW
    with_unfolding_all refine' my_while (fun (i : Nat) m₁ => ∃ (q r : Int) (tq tr : Tok), m₁ "q" = some (.int q tq) ∧ m₁ "r" = some (.int r tr) ∧ m₁ "b" = some (.int b t3) ∧ a12 * 2 ^ n.toNat + a3 = q * b + r ∧ r < b ∧ i = (-r).toNat) ?kF ?kN ?hJ ?hE ?_
    case kF => exact FW
    case kN => exact NW
    case hE => first | passes_own | with_unfolding_all passes_own
    case hJ => exact ⟨_, _, _, _, by with_unfolding_all rfl, by with_unfolding_all rfl, by with_unfolding_all rfl, hA, hlt, rfl⟩
    clear FW NW
    rintro i m₁ hW tkW F₁ N₁ ⟨q, r, tq, tr, hq, hr, hbm, hAe, hrb, rfl⟩
    have F₂ := fr_named [(("q" : Str), Value.int q tq), ("r", .int r tr), ("b", .int b t3)] (by intro p hp; simp only [List.mem_cons, List.not_mem_nil, or_false] at hp; rcases hp with rfl | rfl | rfl <;> assumption) F₁
    clear F₁
    (repeat' (first | ((with_reducible refine Blk.into ?_); (first | (with_reducible ((show wpAny _ _ (binaryOp .RShift _ _) _ _ _); refine my_rshift (by first | exact d3sz (by with_reducible assumption) (by with_reducible assumption) (by with_reducible assumption) (by with_reducible assumption) (by with_reducible assumption) (by with_reducible assumption) (by with_reducible assumption) | (first | lia | omega) | assumption) ?_; intro v hvx; (try simp only [show Int.toNat 1 = 1 from rfl, Int.pow_one] at hvx))) | (with_reducible ((show wpAny _ _ (inplaceOp .RShift _ _) _ _ _); refine my_irshift (by first | exact d3sz (by with_reducible assumption) (by with_reducible assumption) (by with_reducible assumption) (by with_reducible assumption) (by with_reducible assumption) (by with_reducible assumption) (by with_reducible assumption) | (first | lia | omega) | assumption) ?_; intro v hvx; (try simp only [show Int.toNat 1 = 1 from rfl, Int.pow_one] at hvx))) | (with_reducible ((show wpAny _ _ (binaryOp .LShift (Value.int 1 _) _) _ _ _); refine lshift_int (by (first | lia | omega)) (by rw [bits_one]; (first | lia | omega)) ?_)) | (with_reducible ((show wpAny _ _ (binaryOp .LShift _ _) _ _ _); refine my_lshift (by first | exact d3sz (by with_reducible assumption) (by with_reducible assumption) (by with_reducible assumption) (by with_reducible assumption) (by with_reducible assumption) (by with_reducible assumption) (by with_reducible assumption) | (first | lia | omega) | assumption) (by first | exact d3sz (by with_reducible assumption) (by with_reducible assumption) (by with_reducible assumption) (by with_reducible assumption) (by with_reducible assumption) (by with_reducible assumption) (by with_reducible assumption) | (first | lia | omega) | assumption) ?_; intro v hvx; (try simp only [show Int.toNat 1 = 1 from rfl, Int.pow_one] at hvx))) | (with_reducible ((show wpAny _ _ (inplaceOp .LShift _ _) _ _ _); refine my_ilshift (by first | exact d3sz (by with_reducible assumption) (by with_reducible assumption) (by with_reducible assumption) (by with_reducible assumption) (by with_reducible assumption) (by with_reducible assumption) (by with_reducible assumption) | (first | lia | omega) | assumption) (by first | exact d3sz (by with_reducible assumption) (by with_reducible assumption) (by with_reducible assumption) (by with_reducible assumption) (by with_reducible assumption) (by with_reducible assumption) (by with_reducible assumption) | (first | lia | omega) | assumption) ?_; intro v hvx; (try simp only [show Int.toNat 1 = 1 from rfl, Int.pow_one] at hvx))) | (with_reducible ((show wpAny _ _ (binaryOp .BitAnd _ _) _ _ _); refine my_and ?_; intro v hvx; (try simp only [bitAnd_m1] at hvx))) | (with_reducible ((show wpAny _ _ (binaryOp .BitOr _ _) _ _ _); refine my_or ?_; intro v hvx)) | (with_reducible ((show wpAny _ _ (binaryOp .Mult _ _) _ _ _); refine my_mul (by first | exact d3sz (by with_reducible assumption) (by with_reducible assumption) (by with_reducible assumption) (by with_reducible assumption) (by with_reducible assumption) (by with_reducible assumption) (by with_reducible assumption) | (first | lia | omega) | assumption) ?_)))) | (k_unfold; (try dsimp only)) | (k_end; wrow_close) | walk1 | (dsimp only; walk1) | (leave1; (try dsimp only))))
    · refine ⟨_, _, _, _, _, rfl, by with_reducible assumption, by with_reducible assumption, ?_, rfl, q - 1, r + b, _, _, by with_unfolding_all rfl, by with_unfolding_all rfl, by with_unfolding_all rfl, d3turn hAe, by (first | lia | omega), rfl⟩
      (first | lia | omega)
    · exact hret _ _ _ _ _ _ _ _ hAe (by (first | lia | omega)) hrb (by with_reducible assumption) (by first | with_reducible assumption | ((rename News _ _ _ _ => dN); first | exact nd1 dN | exact nd1 (nd1 dN) | exact nd1 (nd1 (nd1 dN)) | exact nd1 (nd1 (nd1 (nd1 dN))))) (by ((rename _ < _ ∧ _ => dL); exact allLt_mem (by first | exact dL | exact dL.2 | exact dL.2.2 | exact dL.2.2.2 | exact dL.2.2.2.2 | exact dL.2.2.2.2.2)))

theorem div21_all {prog : Program} {w : World} {p : Program} {loose : List Str} {mean : ExcName → Option Value} {mg mb : Str → Option Value} (k : Nat) : Div21 prog w p loose mean mg mb k := by
  induction k with
  | zero => exact div21_step 0 fun j h => absurd h (by (first | lia | omega))
  | succ k ih =>
    refine div21_step (k + 1) fun j h => ?_
    obtain rfl : j = k := by (first | lia | omega)
    exact div32_step _ ih
end Mine01
end
namespace Mine01
theorem rest6 : True ∧ True := by w_top off; first | (walk1; all_goals trivial) | exact ⟨trivial, trivial⟩
end Mine01

section
namespace Lp

/-- the end of a turn of a loop: the iterator as it was, the ledger and the names by the word -/
def TurnPost (h₀ : Heap) (L : Addr) (s : Shared) (I : Addr) (it : Obj) (J : (Str → Option Value) → List (Addr × Obj) → Prop) (Q : Flow → Shared → Prop) (f : Flow) (s₃ : Shared) : Prop :=
  match f with
  | .ret v => Q (.ret v) s₃
  | .brk => Q .next s₃
  | _ => ∃ h' tk' m' news', s₃ = { s with heap := h', toks := tk' } ∧ Fr h₀ L h' m' ∧ News h₀ L h' ((I, it) :: news') ∧ (∀ p ∈ news', p.1 ≠ I) ∧ J m' news'

section
variable {prog : Program} {w : World} {A : Around} {E : Value → Shared → Prop} {s : Shared} {env : Env} {h₀ : Heap} {target : Expr} {body : List Stmt} {Q : Flow → Shared → Prop}

theorem turns_core {I : Addr} {fp : List Addr} {n : Nat} {P : Nat → Value → Prop} {St : Nat → Heap → Prop} {m : Str → Option Value} {news : List (Addr × Obj)} {la : Option (Addr × Obj)}
    (W : Walks prog w A I fp [I] n P St) (hfp : ∀ b ∈ fp, b = I ∨ ∃ q, la = some q ∧ b = q.1)
    (hgo : ∀ i v (s : Shared) (Q : Unit → Shared → Prop) (E : Value → Shared → Prop), St i s.heap → Q () s → wpAny (model prog w) A (letOwnedTupleGo target (.ref I) v) Q E s)
    (hL : env.locals ∉ fp) (hI0 : h₀.get? I = none) (hIo : ∀ i h, St i h → ∃ o, h.get? I = some o)
    (hla : ∀ q i h, la = some q → St i h → ∃ o, h.get? q.1 = some o)
    (hst : St 0 s.heap) (F : Fr h₀ env.locals s.heap m) (N : News h₀ env.locals s.heap news) (hoff : ∀ p ∈ news, p.1 ≠ I)
    (J : Nat → (Str → Option Value) → List (Addr × Obj) → Prop) (h0 : J 0 m news) (hJla : ∀ q i m n, la = some q → J i m n → q ∈ n)
    (turn : ∀ i v m₁ news₁ h₁ tk₁ it, i < n → P i v → J i m₁ news₁ → (∀ p ∈ news₁, p.1 ≠ I) → Fr h₀ env.locals h₁ m₁ → News h₀ env.locals h₁ ((I, it) :: news₁) →
      wpAny (model prog w) A (assign target env v) (fun _ s₃ => wpAny (model prog w) A (execs body env) (TurnPost h₀ env.locals s I it (J (i + 1)) Q) E s₃) E { s with heap := h₁, toks := tk₁ })
    (done : ∀ h' tk m' news', J n m' news' → Fr h₀ env.locals h' m' → News h₀ env.locals h' news' → Q .next { s with heap := h', toks := tk }) :
    TurnsAt prog w A h₀ env target body Q E (.ref I) s := by
  refine ⟨I, fp, [I], n, _, _, St, m, news, J, rfl, KTurns.ofWalks W hgo, hL, fun b hb => by rw [List.mem_singleton.mp hb]; exact hI0, fun p hp hm => hoff p hp (List.mem_singleton.mp hm), hst, F, N, h0, ?_, fun h' tk m' news' F' N' _ hJ => done h' tk m' news' hJ F' N'⟩
  intro i v m₁ news₁ h₁ tk₁ own hi hP hJ hoff₁ hown hget hall hst₁ F₁ N₁
  obtain ⟨it, hit⟩ := hIo _ _ hst₁
  have hIf : I ∈ fp := W.sub I (List.mem_singleton.mpr rfl)
  have hmem : (I, it) ∈ own := hall I hIf hI0 it hit
  have N₂ : News h₀ env.locals h₁ ((I, it) :: news₁) := fun p hp => by
    rcases List.mem_cons.mp hp with rfl | hp
    · exact N₁ _ (List.mem_append_left _ hmem)
    · exact N₁ _ (List.mem_append_right _ hp)
  refine wpAny_mono (turn i v m₁ news₁ h₁ tk₁ it hi hP hJ (fun p hp e => hoff₁ p hp (List.mem_singleton.mpr e)) F₁ N₂) (fun _ s₃ h₃ => wpAny_mono h₃ (fun f s₄ h₄ => ?_) fun _ _ e => e) fun _ _ e => e
  have fin : (∃ h' tk' m' news', s₄ = { s with heap := h', toks := tk' } ∧ Fr h₀ env.locals h' m' ∧ News h₀ env.locals h' ((I, it) :: news') ∧ (∀ p ∈ news', p.1 ≠ I) ∧ J (i + 1) m' news') →
      LoopStepU h₀ env.locals [I] own (J (i + 1)) { s with heap := h₁, toks := tk₁ } .next s₄ := by
    rintro ⟨h', tk', m', news', rfl, F', N', ho, hJ'⟩
    refine ⟨rfl, h', tk', m', news', rfl, F', fun p hp => ?_, fun p hp hm => ho p hp (List.mem_singleton.mp hm), hJ'⟩
    rcases List.mem_append.mp hp with hp | hp
    · have hg := hget p hp
      rcases hfp p.1 (hown p hp) with e | ⟨q, hq, e⟩
      · rw [e, hit] at hg
        have : p = (I, it) := Prod.ext e (Option.some.inj hg).symm
        rw [this]; exact N' _ (.head _)
      · have hq1 := hJla q i m₁ news₁ hq hJ
        have hq2 := (N₁ _ (List.mem_append_right _ hq1)).1
        rw [e, hq2] at hg
        have : p = q := Prod.ext e (Option.some.inj hg).symm
        rw [this]; exact N' _ (.tail _ (hJla q _ _ _ hq hJ'))
    · exact N' _ (.tail _ hp)
  cases f with
  | ret v => exact h₄
  | brk => exact h₄
  | next => exact fin h₄
  | cont => exact fin h₄

/-- a loop over a list of the ledger -/
theorem list_turns {ax : Addr} {vs : Array Value} {c : Nat} {m : Str → Option Value} {news : List (Addr × Obj)}
    (hh : A.handled = none) (F : Fr h₀ env.locals s.heap m) (N : News h₀ env.locals s.heap news) (hm : (ax, ({ cls := .type "list", data := .seq vs c } : Obj)) ∈ news)
    (J : Nat → (Str → Option Value) → List (Addr × Obj) → Prop) (h0 : J 0 m news) (hJ : ∀ i m n, J i m n → (ax, ({ cls := .type "list", data := .seq vs c } : Obj)) ∈ n)
    (turn : ∀ I i v m₁ news₁ h₁ tk₁ it, i < vs.size → vs[i]? = some v → J i m₁ news₁ → (∀ p ∈ news₁, p.1 ≠ I) → Fr h₀ env.locals h₁ m₁ → News h₀ env.locals h₁ ((I, it) :: news₁) →
      wpAny (model prog w) A (assign target env v) (fun _ s₃ => wpAny (model prog w) A (execs body env) (TurnPost h₀ env.locals s I it (J (i + 1)) Q) E s₃) E { s with heap := h₁, toks := tk₁ })
    (done : ∀ h' tk m' news', J vs.size m' news' → Fr h₀ env.locals h' m' → News h₀ env.locals h' news' → Q .next { s with heap := h', toks := tk }) :
    wpAny (model prog w) A (pyIter (.ref ax)) (fun it s₂ => TurnsAt prog w A h₀ env target body Q E it s₂) E s := by
  have hax := N _ hm
  have hl : s.heap.IsList ax vs := ⟨_, hax.1, rfl, c, rfl⟩
  have hlt : ax < s.heap.objs.size := Heap.lt_size hax.1
  have hne : ax ≠ s.heap.objs.size := Nat.ne_of_lt hlt
  refine wpAny_pyIter_list hl ?_
  refine turns_core (s := { s with heap := s.heap.push _ }) (la := some (ax, { cls := .type "list", data := .seq vs c })) (Walks.list hh s.heap.objs.size ax hne vs) (fun b hb => ?_) (fun i v s Q E st q => letGo_listiter st.1 q) ?_ (next_is_new F)
    (fun i h st => ?_) (fun q i h e st => ?_) ⟨⟨_, Heap.get?_push_size _ rfl, rfl, rfl⟩, hl.at fun o e => Heap.get?_push_of_some _ e⟩ (F.push _) (fun p hp => ⟨Heap.get?_push_of_some _ (N p hp).1, (N p hp).2⟩) (fun p hp e => absurd (Heap.lt_size (N p hp).1) (e ▸ Nat.lt_irrefl _))
    J h0 (fun q i m n e hj => by cases e; exact hJ i m n hj) (fun i v m₁ news₁ h₁ tk₁ it hi hP hj ho F₁ N₁ => turn s.heap.objs.size i v m₁ news₁ h₁ tk₁ it hi hP hj ho F₁ N₁) done
  · have hb' : b = s.heap.objs.size ∨ b = ax := by simpa using hb
    rcases hb' with e | e
    · exact .inl e
    · exact .inr ⟨_, rfl, e⟩
  · intro hI
    rcases List.mem_cons.mp hI with e | hI
    · exact absurd F.ns.lt (e ▸ Nat.lt_irrefl _)
    · exact hax.2.1 (List.mem_singleton.mp hI).symm
  · obtain ⟨it, hit, _⟩ := st.1
    exact ⟨it, hit⟩
  · cases e
    obtain ⟨o, ho, _⟩ := st.2
    exact ⟨o, ho⟩

/-- a loop over a range by ones -/
theorem range_turns {r : Addr} {a₀ b₀ : Int} {t₀ u₀ v₀ : Tok} {n : Nat} {m : Str → Option Value} {news : List (Addr × Obj)} {x : Str} {px : Pos}
    (hh : A.handled = none) (hr : IsRange s.heap r a₀ b₀ 1 t₀ u₀ v₀) (hsmall : Builtin.Range.small a₀ b₀ 1 = true) (hn : Builtin.Range.rangeSize a₀ b₀ 1 = (n : Int)) (F : Fr h₀ env.locals s.heap m) (N : News h₀ env.locals s.heap news)
    (J : Nat → (Str → Option Value) → List (Addr × Obj) → Prop) (h0 : J 0 m news)
    (turn : ∀ I i t m₁ news₁ h₁ tk₁ it, i < n → J i m₁ news₁ → (∀ p ∈ news₁, p.1 ≠ I) → Fr h₀ env.locals h₁ m₁ → News h₀ env.locals h₁ ((I, it) :: news₁) →
      wpAny (model prog w) A (assign (.Name x px) env (.int (a₀ + i) t)) (fun _ s₃ => wpAny (model prog w) A (execs body env) (TurnPost h₀ env.locals s I it (J (i + 1)) Q) E s₃) E { s with heap := h₁, toks := tk₁ })
    (done : ∀ h' tk m' news', J n m' news' → Fr h₀ env.locals h' m' → News h₀ env.locals h' news' → Q .next { s with heap := h', toks := tk }) :
    wpAny (model prog w) A (pyIter (.ref r)) (fun it s₂ => TurnsAt prog w A h₀ env (.Name x px) body Q E it s₂) E s := by
  refine wpAny_pyIter_range hr hsmall ?_
  have W : Walks prog w A s.heap.objs.size [s.heap.objs.size] [s.heap.objs.size] n (fun i v => i < n ∧ ∃ t, v = .int (a₀ + i * 1) t)
      (fun i h => IsRangeIter h s.heap.objs.size (a₀ + (i : Nat) * 1) ((n : Int) - (i : Nat)) 1) := (Walks.range hh _ a₀ 1 n).bound
  refine turns_core (s := { s with heap := s.heap.push _ }) (la := none) W (fun b hb => .inl (List.mem_singleton.mp hb)) (fun i v s Q E _ q => wpAny_pure q) ?_ (next_is_new F) (fun i h st => ⟨_, st⟩) (fun q i h e => nomatch e)
    (by show IsRangeIter _ _ _ _ _; rw [hn]; simpa using Heap.get?_push_size _ rfl) (F.push _) (fun p hp => ⟨Heap.get?_push_of_some _ (N p hp).1, (N p hp).2⟩) (fun p hp e => absurd (Heap.lt_size (N p hp).1) (e ▸ Nat.lt_irrefl _))
    J h0 (fun q i m n e => nomatch e) (fun i v m₁ news₁ h₁ tk₁ it hi hP hj ho F₁ N₁ => ?_) done
  · intro hI
    exact absurd F.ns.lt ((List.mem_singleton.mp hI) ▸ Nat.lt_irrefl _)
  · obtain ⟨_, t, rfl⟩ := hP
    rw [Int.mul_one]
    exact turn s.heap.objs.size i t m₁ news₁ h₁ tk₁ it hi hj ho F₁ N₁
end
end Lp
end

section
namespace Mine01
open DivM


/-- the low bytes of a number, lowest first -/
def lowL (x : Int) (n : Nat) : List UInt8 := (List.range n).map fun i => (x / 2 ^ (8 * i) % 256).toNat.toUInt8
theorem lowL_length (x : Int) (n : Nat) : (lowL x n).length = n := by simp [lowL]
theorem low_ints (x n : Int) : byteArr (List.map (fun k' => Builtin.bitAnd (x.fdiv (2 ^ (8 * k').toNat)) 255) (rangeKs 0 (n - 0).toNat)) = (lowL x n.toNat).toArray := by
  unfold byteArr lowL rangeKs
  rw [List.map_map, List.map_map, Int.sub_zero]
  congr 1
  refine List.map_congr_left fun i _ => ?_
  show (Builtin.bitAnd (x.fdiv (2 ^ (8 * (0 + (i : Int))).toNat)) 255).toNat.toUInt8 = _
  rw [bitAnd_m8, Int.fdiv_eq_ediv_of_nonneg _ (by have := two_pow_pos (8 * (0 + (i : Int))).toNat; omega)]
  congr 6
  omega
theorem in_and255 (f : Int → Int) (l : List Int) : KBa.In (l.map fun k => Builtin.bitAnd (f k) 255) := by
  intro n hn
  obtain ⟨k, _, rfl⟩ := List.mem_map.mp hn
  rw [bitAnd_m8]
  omega

theorem ndt {h₀ h : Heap} {L : Addr} {x : Addr × Obj} {r : List (Addr × Obj)} (N : News h₀ L h (x :: r)) : News h₀ L h r := cb_drop N fun _ hp => .tail _ hp
/-- where a call stands -/
abbrev Here (w : World) (p : Program) (loose : List Str) (mean : ExcName → Option Value) (mg mb : Str → Option Value) (lv dp un : Nat) (cs : Scope) (outer : List Env) (A₀ : Around) (base h₀ : Heap) (L : Addr) (m : Str → Option Value) (news : List (Addr × Obj)) (h : Heap) : Prop :=
  Below A₀ base outer h₀ ∧ Fr h₀ L h m ∧ (hd.heap_39 w.params).In h₀ ∧ News h₀ L h news ∧ Top p loose mean mg mb h₀ ∧ cs.kind = .function ∧ dp + 5 * lv < 850 ∧ un + 50 * lv < 8800


theorem my_badd {prog : Program} {w : World} {A : Around} {E : Value → Shared → Prop} {s : Shared} {Q : Value → Shared → Prop} {a b : List UInt8} {t u : Tok} (hz : a.length + b.length ≤ 16777216)
    (h : ∀ t' k, Q (.bytes (a ++ b).toArray t') { s with toks := k }) : wpAny (model prog w) A (binaryOp .Add (.bytes a.toArray t) (.bytes b.toArray u)) Q E s :=
  KBy.add_bytes (by simpa using hz) fun t' k => by have := h t' k; simpa using this
theorem my_item {prog : Program} {w : World} {A : Around} {E : Value → Shared → Prop} {s : Shared} {h₀ : Heap} {L : Addr} {news : List (Addr × Obj)} {value slice : Expr} {l : Addr} {vs : Array Value} {c : Nat} {k : Int} {u : Tok} {v : Value} {Q : Value → Shared → Prop}
    (N : News h₀ L s.heap news) (hm : (l, ({ cls := .type "list", data := .seq vs c } : Obj)) ∈ news) (h0 : 0 ≤ k) (hhi : k < 2 ^ 63) (hx : vs[k.toNat]? = some v) (h : Q v s)
    (hs : subscripted slice false (.ref l) (.int k u) = operate [.ref l, .int k u] (getItem (.ref l) (.int k u)) := by with_unfolding_all rfl) :
    wpAny (model prog w) A (subscriptTail value slice (.ref l) (.int k u)) Q E s :=
  have hl : s.heap.IsList l vs := ⟨_, (N _ hm).1, rfl, _, rfl⟩
  tail_any hl.typeIs slot_list_getitem.lookup (wpAny_getItem_list hl h0 hhi hx h) hs
theorem memOf {α : Type} {a : α} {l : List α} (h : a ∈ l) : List.Mem a l := h
theorem my_unrEnd {h₀ : Heap} {L I : Addr} {it : Obj} {rest : (Str → Option Value) → List (Addr × Obj) → Prop} {s₁ : Shared} {h' : Heap} {tk : Nat} {m' : Str → Option Value} {news : List (Addr × Obj)} (F : Fr h₀ L h' m') (N : News h₀ L h' ((I, it) :: news))
    (off : ∀ p ∈ news, p.1 < I) (r : rest m' news) : UnrEnd h₀ L s₁ I it rest { s₁ with heap := h', toks := tk } := UnrEnd.intro F N news (fun _ h => h) (fun p hp => Nat.ne_of_lt (off p hp)) r
theorem stLo1 {M A Q E s y0} (h : Blk (wpAny M A (call (Value.type "bytes") [Value.ref y0]) Q E s)) : wpAny M A (call (Value.type "bytes") [Value.ref y0]) Q E s := h
local macro_rules | `(tactic| walk_at "call type:bytes") => `(tactic| with_reducible refine stLo1 ?_)
theorem stLo2 {M A Q E s y0} (h : Blk (wpAny M A (call (Value.ref 130) y0) Q E s)) : wpAny M A (call (Value.ref 130) y0) Q E s := h
local macro_rules | `(tactic| walk_at "call ref") => `(tactic| with_reducible refine stLo2 ?_)
local macro_rules | `(tactic| walk_at "binaryOp Add bytes bytes") => `(tactic| refine Blk.out ?_)
theorem stLo3 {M A Q E s y0 y1 y2 y3 y4} (h : Blk (wpAny M A (subscriptTail y0 y1 (Value.ref y2) (Value.int y3 y4)) Q E s)) : wpAny M A (subscriptTail y0 y1 (Value.ref y2) (Value.int y3 y4)) Q E s := h
local macro_rules | `(tactic| walk_at "subscriptTail") => `(tactic| with_reducible refine stLo3 ?_)
local macro_rules | `(tactic| walk_at "UnrEnd") => `(tactic| (refine my_unrEnd (by k_asm) (by k_asm) (by k_asm) ?_))
section
variable {prog : Program} {w : World} {p : Program} {loose : List Str} {mean : ExcName → Option Value} {mg mb : Str → Option Value}
  {dp un : Nat} {gd : Option (List Code)} {cn : Str} {cs : Scope} {ad : Addr} {ccd : Value} {cl : List (Str × Addr)} {outer : List Env} {A₀ : Around} {base h₀ : Heap} {L : Addr} {m : Str → Option Value} {news : List (Addr × Obj)} {s : Shared} {Q E : Value → Shared → Prop}
theorem low_call {x n : Int} {tx tn : Tok} (hn : 0 ≤ n ∧ n ≤ 64) (H : Here w p loose mean mg mb 0 dp un cs outer A₀ base h₀ L m news s.heap)
    (hret : ∀ t h' tk', Fr h₀ L h' m → News h₀ L h' news → Q (.bytes (lowL x n.toNat).toArray t) { s with heap := h', toks := tk' }) :
    wpAny (model prog w) (ktrTop dp un gd cn cs L ad ccd cl outer) (call (.ref 130) [.int x tx, .int n tn]) Q E s := by
  obtain ⟨B, F, X, N, T, hk, hd, hu⟩ := H
  obtain ⟨hn0, hn1⟩ := hn
  refine wpAny_call ?_
  k_dflt ((refine' code_defC ?k1_2 ?k2_2 ?k3_2 ?k4_2 ?k5_2 ?kA_2 ?kF_2 ?kK_2 ?k6_2 ?k7_2 ?k8_2 ?k9_2 ?kB_2 ?kD_2 ?_ ?c2_2 ?c3_2 ?c4_2; (case kA_2 => exact rfl); (case kF_2 => exact rfl); (case kK_2 => (first | with_reducible assumption | assumption)); (case k1_2 => k_asm); (case k2_2 => k_asm); (case k3_2 => k_asm); (case k4_2 => k_asm); (case k5_2 => k_asm); (case k6_2 => k_is); (case k7_2 => k_is); (case k8_2 => ktr_room); (case k9_2 => exact BindsTo.of_eq rfl); (case kB_2 => exact rfl); (case kD_2 => decide +kernel); (case c2_2 => exact rfl); (case c3_2 => exact rfl); (case c4_2 => exact rfl); k_whole; intro g' L' h' tk' cells' FG' F' N' Y' B' X' T' lc9'; (try k_lt lc9'); k_cells Y'; (try simp only [List.cons_append, List.nil_append] at N'); (try dsimp only); (try k_lift B'); (try k_fold)))
  (repeat' (first | ((with_reducible refine Blk.into ?_); (first | (with_reducible ((show wpAny _ _ (call (Value.type "bytes") [Value.ref _]) _ _ _); k_dflt (refine' KBa.make_K ?kbaF_3 ?kbaN_3 ?kbah_3 ?kbal_3 ?kbai_3 ?kbar_3 ?kban_3 ?_; (case kbaF_3 => k_asm); (case kbaN_3 => k_asm); (case kbah_3 => rfl); (case kbal_3 => kba_isList); (case kbai_3 => assumption); (case kbar_3 => exact in_and255 _ _); (case kban_3 => (simp only [List.length_map, rangeKs_length]; omega))); intro _ _ _ F' N' kbaIn; (try rw [low_ints]))) | (with_reducible ((show wpAny _ _ (binaryOp .Add (Value.bytes _ _) (Value.bytes _ _)) _ _ _); ((first | (with_reducible refine my_badd ?_ ?_) | refine my_badd (b := [_, _, _, _]) ?_ ?_ | refine my_badd ?_ ?_); · (simp only [List.length_append, lowL_length, List.length_cons, List.length_nil]; omega)); intro t' tk')) | (with_reducible ((show wpAny _ _ (subscriptTail _ _ (Value.ref _) (Value.int _ _)) _ _ _); k_dflt (refine my_item (by k_asm) (by k_mem) (by decide) (by decide) (by with_unfolding_all rfl) ?_ (by with_unfolding_all rfl)))))) | (k_unfold; (try dsimp only)) | (k_end; wrow_close) | walk1 | (dsimp only; walk1) | (leave1; (try dsimp only))))
  exact hret _ _ _ (by with_reducible assumption) (by first | with_reducible assumption | ((rename News _ _ _ _ => dN); first | exact ndt dN | exact ndt (ndt dN) | exact ndt (ndt (ndt dN)) | exact ndt (ndt (ndt (ndt dN))) | exact ndt (ndt (ndt (ndt (ndt dN))))))


def recL (sign : List UInt8) (told : Int) (f : List Int) : List UInt8 :=
  sign ++ lowL told 8 ++ [45, 0, 45, 0] ++ lowL (f.getD 0 0) 4 ++ lowL (f.getD 1 0) 4 ++ lowL (f.getD 2 0) 8 ++ lowL (f.getD 3 0) 8 ++ lowL (f.getD 4 0) 8 ++ lowL (f.getD 5 0) 8
theorem record_call {sg : List UInt8} {told f0 f1 f2 f3 f4 f5 : Int} {ts tt t0 t1 t2 t3 t4 t5 : Tok} {lf : Addr} {c : Nat} (hs : sg.length = 4) (H : Here w p loose mean mg mb 1 dp un cs outer A₀ base h₀ L m news s.heap)
    (hl : (lf, ({ cls := .type "list", data := .seq #[.int f0 t0, .int f1 t1, .int f2 t2, .int f3 t3, .int f4 t4, .int f5 t5] c } : Obj)) ∈ news)
    (hret : ∀ t h' tk', Fr h₀ L h' m → News h₀ L h' news → Q (.bytes (recL sg told [f0, f1, f2, f3, f4, f5]).toArray t) { s with heap := h', toks := tk' }) :
    wpAny (model prog w) (ktrTop dp un gd cn cs L ad ccd cl outer) (call (.ref 137) [.bytes sg.toArray ts, .int told tt, .ref lf]) Q E s := by
  obtain ⟨B, F, X, N, T, hk, hd, hu⟩ := H
  refine wpAny_call ?_
  k_dflt ktr_enter
  (repeat' (first | ((with_reducible refine Blk.into ?_); (first | (with_reducible ((show wpAny _ _ (call (Value.ref 130) _) _ _ _); k_dflt (refine low_call (by omega) (by exact ⟨by k_asm, by k_asm, by k_asm, by k_asm, by k_asm, by first | exact rfl | (first | with_reducible assumption | assumption), by (simp only [depth_deeper, depth_in1, ktrTop]; omega), by (simp only [units_deeper, units_in1, ktrTop]; omega)⟩) ?_); intro t' h' tk' F' N'; (try k_sweep))) | (with_reducible ((show wpAny _ _ (binaryOp .Add (Value.bytes _ _) (Value.bytes _ _)) _ _ _); ((first | (with_reducible refine my_badd ?_ ?_) | refine my_badd (b := [_, _, _, _]) ?_ ?_ | refine my_badd ?_ ?_); · (simp only [List.length_append, lowL_length, List.length_cons, List.length_nil]; omega)); intro t' tk')) | (with_reducible ((show wpAny _ _ (subscriptTail _ _ (Value.ref _) (Value.int _ _)) _ _ _); k_dflt (refine my_item (by k_asm) (by k_mem) (by decide) (by decide) (by with_unfolding_all rfl) ?_ (by with_unfolding_all rfl)))))) | (k_unfold; (try dsimp only)) | (k_end; wrow_close) | walk1 | (dsimp only; walk1) | (leave1; (try dsimp only))))
  exact hret _ _ _ (by with_reducible assumption) (by first | with_reducible assumption | ((rename News _ _ _ _ => dN); first | exact ndt dN | exact ndt (ndt dN) | exact ndt (ndt (ndt dN)) | exact ndt (ndt (ndt (ndt dN))) | exact ndt (ndt (ndt (ndt (ndt dN))))))
end
end Mine01
end
namespace Mine01
theorem rest8 : True ∧ True := by w_top off; first | (walk1; all_goals trivial) | exact ⟨trivial, trivial⟩
end Mine01

section
namespace Mine01
open DivM Lp

theorem len_t (l : List UInt8) (a : Nat) : (l.take a).length ≤ l.length := by rw [List.length_take]; exact Nat.min_le_right _ _
theorem len_td (l : List UInt8) (a b : Nat) : ((l.drop a).take b).length ≤ l.length := Nat.le_trans (len_t _ _) (by rw [List.length_drop]; exact Nat.sub_le _ _)
theorem len_app {x y : List UInt8} {m n : Nat} (h1 : x.length ≤ m) (h2 : y.length ≤ n) : (x ++ y).length ≤ m + n := by rw [List.length_append]; exact Nat.add_le_add h1 h2
theorem bnd2 {x y : List UInt8} {m n : Nat} (h1 : x.length ≤ m) (h2 : y.length ≤ n) (h : m + n ≤ 16777216) : x.length + y.length ≤ 16777216 := Nat.le_trans (Nat.add_le_add h1 h2) h
local macro_rules | `(tactic| walk_at "binaryOp Add bytes bytes") => `(tactic| refine Blk.out ?_)
local macro_rules | `(tactic| walk_at "binaryOp Mult int int") => `(tactic| refine Blk.out ?_)
local macro_rules | `(tactic| walk_at "exec For") => `(tactic| refine Blk.out ?_)
local macro_rules | `(tactic| walk_at "exec For Tuple Name cons nil") => `(tactic| refine Blk.out ?_)
local macro_rules | `(tactic| walk_at "pyIter ref") => `(tactic| refine Blk.out ?_)
theorem stLk1 {M A Q E s y0 y1 y2 y3 y4 y5 y6} (h : Blk (wpAny M A (subscriptTail y0 (Expr.Slice y1 y2 none y3) (Value.bytes y4 y5) (Value.ref y6)) Q E s)) : wpAny M A (subscriptTail y0 (Expr.Slice y1 y2 none y3) (Value.bytes y4 y5) (Value.ref y6)) Q E s := h
local macro_rules | `(tactic| walk_at "subscriptTail") => `(tactic| with_reducible refine stLk1 ?_)

theorem flat_repl (n : Nat) : (List.replicate n [(0 : UInt8)]).flatten = List.replicate n 0 := by
  induction n with
  | zero => rfl
  | succ n ih => rw [List.replicate_succ, List.flatten_cons, ih, List.replicate_succ]; rfl
theorem clip_nn {x : Int} {n : Nat} (h : 0 ≤ x) : clipAt n x = min x.toNat n := by
  obtain ⟨k, rfl⟩ := Int.eq_ofNat_of_zero_le h
  exact clipAt_nat n k
theorem cut_eq (l : List UInt8) (lo hi : Option Int) (h1 : ∀ x, lo = some x → 0 ≤ x) (h2 : ∀ x, hi = some x → 0 ≤ x) :
    KBy.picked l.toArray lo hi = ((l.drop (lo.elim 0 Int.toNat)).take (hi.elim l.length Int.toNat - lo.elim 0 Int.toNat)).toArray := by
  rw [KBc.picked_eq]
  congr 1
  have a1 : lo.elim 0 (clipAt l.toArray.size) = min (lo.elim 0 Int.toNat) l.length := by
    cases lo with
    | none => simp
    | some x => simpa using clip_nn (n := l.length) (h1 x rfl)
  have a2 : hi.elim l.toArray.size (clipAt l.toArray.size) = min (hi.elim l.length Int.toNat) l.length := by
    cases hi with
    | none => simp
    | some x => simpa using clip_nn (n := l.length) (h2 x rfl)
  rw [a1, a2]
  generalize lo.elim 0 Int.toNat = a
  generalize hi.elim l.length Int.toNat = b
  show (l.drop (min a l.length)).take (min b l.length - min a l.length) = _
  by_cases ha : a ≤ l.length
  · rw [Nat.min_eq_left ha]
    by_cases hb : b ≤ l.length
    · rw [Nat.min_eq_left hb]
    · rw [List.take_of_length_le (by rw [List.length_drop]; omega), List.take_of_length_le (by rw [List.length_drop]; omega)]
  · rw [List.drop_of_length_le (by omega), List.drop_of_length_le (by omega)]
    simp
section
variable {prog : Program} {w : World} {A : Around} {E : Value → Shared → Prop} {s : Shared} {h₀ : Heap} {L : Addr} {m : PySem.Str → Option Value} {news : List (Addr × Obj)} {l u : Value} {lo hi : Option Int} {b : List UInt8} {t : Tok} {Q : Value → Shared → Prop}
theorem my_slice {value slice : Expr} (F : Fr h₀ L s.heap m) (N : News h₀ L s.heap news) (hl : IsPart l lo) (hu : IsPart u hi) (h1 : ∀ x, lo = some x → 0 ≤ x) (h2 : ∀ x, hi = some x → 0 ≤ x) (hz : b.length ≤ 16777216)
    (h : ∀ h' t' k, Fr h₀ L h' m → News h₀ L h' news → Q (.bytes ((b.drop (lo.elim 0 Int.toNat)).take (hi.elim b.length Int.toNat - lo.elim 0 Int.toNat)).toArray t') { s with heap := h', toks := k })
    (hs : subscripted slice false (.bytes b.toArray t) (.ref s.heap.objs.size) = operate [.ref s.heap.objs.size, .bytes b.toArray t] (getItem (.bytes b.toArray t) (.ref s.heap.objs.size)) := by with_unfolding_all rfl)
    (ht : ∀ r, letTemporaryGo value (.bytes b.toArray t) r = pure () := by intro _; with_unfolding_all rfl) :
    wpAny (model prog w) A (subscriptTail value slice (.bytes b.toArray t) (.ref s.heap.objs.size)) Q E { s with heap := s.heap.push { cls := .type "slice", data := .fields #[l, u, .none] } } :=
  KBc.slice_K F N rfl hl hu (by rw [KBw.ints_length]; simpa using hz) (fun h' t' k F' N' _ => by rw [cut_eq b lo hi h1 h2]; exact h h' t' k F' N') hs ht
end
/-- one piece laid upon what was read so far -/
def lookStep (V P cnt S : Int) (out : List UInt8) (q : Int × Int × List UInt8) : List UInt8 :=
  let a := (q.1 - V) * S + q.2.1 - P
  let f := max a 0
  let e := min (a + q.2.2.length) cnt
  if f < e then out.take f.toNat ++ (q.2.2.drop (f - a).toNat).take ((e - a).toNat - (f - a).toNat) ++ out.drop e.toNat else out
def lookL (V P cnt S : Int) (ps : List (Int × Int × List UInt8)) : List UInt8 := ps.foldl (lookStep V P cnt S) (List.replicate cnt.toNat 0)
theorem out0 (V P cnt S : Int) (ps : List (Int × Int × List UInt8)) (t : Tok) : some (Value.bytes (List.replicate cnt.toNat [(0 : UInt8)]).flatten.toArray t) = some (.bytes (lookL V P cnt S (ps.take 0)).toArray t) := by
  rw [flat_repl]; rfl
theorem lookStep_length {V P cnt S : Int} {out : List UInt8} {q : Int × Int × List UInt8} (h : out.length = cnt.toNat) : (lookStep V P cnt S out q).length = cnt.toNat := by
  unfold lookStep
  dsimp only
  have h1 := Int.le_max_left ((q.1 - V) * S + q.2.1 - P) 0
  have h2 := Int.le_max_right ((q.1 - V) * S + q.2.1 - P) 0
  have h3 := Int.min_le_left ((q.1 - V) * S + q.2.1 - P + q.2.2.length) cnt
  have h4 := Int.min_le_right ((q.1 - V) * S + q.2.1 - P + q.2.2.length) cnt
  generalize max ((q.1 - V) * S + q.2.1 - P) 0 = f at *
  generalize min ((q.1 - V) * S + q.2.1 - P + q.2.2.length) cnt = e at *
  generalize (q.1 - V) * S + q.2.1 - P = a at *
  generalize q.2.2 = l at *
  split
  · obtain ⟨i, rfl⟩ := Int.eq_ofNat_of_zero_le h2
    obtain ⟨j, hj⟩ := Int.eq_ofNat_of_zero_le (a := e) (by omega)
    obtain ⟨u, hu⟩ := Int.eq_ofNat_of_zero_le (a := (i : Int) - a) (by omega)
    obtain ⟨x, hx⟩ := Int.eq_ofNat_of_zero_le (a := cnt) (by omega)
    have ha : e - a = ((j + u - i : Nat) : Int) := by omega
    rw [List.length_append, List.length_append, List.length_take, List.length_take, List.length_drop, List.length_drop, h, ha, hu, hj, hx]
    simp only [Int.toNat_natCast]
    have e1 : i ≤ x := by omega
    have e2 : j + u - i - u ≤ l.length - u := by omega
    rw [Nat.min_eq_left e1, Nat.min_eq_left e2]
    omega
  · exact h
theorem lookL_length (V P cnt S : Int) (ps : List (Int × Int × List UInt8)) : (lookL V P cnt S ps).length = cnt.toNat := by
  unfold lookL
  have : ∀ out : List UInt8, out.length = cnt.toNat → (ps.foldl (lookStep V P cnt S) out).length = cnt.toNat := by
    induction ps with
    | nil => intro out h; exact h
    | cons q r ih => intro out h; exact ih _ (lookStep_length h)
  exact this _ (by simp)
theorem max_raw (a : Int) : (if 0 > a then 0 else a) = max a 0 := by omega
theorem min_raw (a c : Int) : (if c < a then c else a) = min a c := by omega
theorem step_yes {V P cnt S wh st : Int} {out d : List UInt8} {f e : Int} (hf : f = (if 0 > (wh - V) * S + st - P then 0 else (wh - V) * S + st - P)) (he : e = (if cnt < (wh - V) * S + st - P + (d.toArray.size : Int) then cnt else (wh - V) * S + st - P + (d.toArray.size : Int))) (h : f < e) :
    out.take f.toNat ++ (d.drop (f - ((wh - V) * S + st - P)).toNat).take ((e - ((wh - V) * S + st - P)).toNat - (f - ((wh - V) * S + st - P)).toNat) ++ (out.drop e.toNat).take (out.length - e.toNat) = lookStep V P cnt S out (wh, st, d) := by
  rw [max_raw] at hf
  rw [min_raw, List.size_toArray] at he
  subst hf he
  unfold lookStep
  dsimp only
  rw [if_pos h, List.take_of_length_le (i := out.length - _) (by rw [List.length_drop]; omega)]
theorem step_no {V P cnt S wh st : Int} {out d : List UInt8} (h : ¬ (if 0 > (wh - V) * S + st - P then 0 else (wh - V) * S + st - P) < (if cnt < (wh - V) * S + st - P + (d.toArray.size : Int) then cnt else (wh - V) * S + st - P + (d.toArray.size : Int))) :
    out = lookStep V P cnt S out (wh, st, d) := by
  rw [max_raw, min_raw, List.size_toArray] at h
  unfold lookStep
  dsimp only
  rw [if_neg h]
/-- a piece stands in the ledger -/
inductive PieceAt (news : List (Addr × Obj)) (v : Option Value) (q : Int × Int × List UInt8) : Prop
  | mk (a : Addr) (tw ts td : Tok) (c : Nat) (e : v = some (Value.ref a)) (hm : (a, ({ cls := .type "tuple", data := .seq #[.int q.1 tw, .int q.2.1 ts, .bytes q.2.2.toArray td] c } : Obj)) ∈ news) : PieceAt news v q
/-- the ledger bears the pieces -/
def PiecesAre (news : List (Addr × Obj)) (vs : List Value) (ps : List (Int × Int × List UInt8)) : Prop :=
  vs.length = ps.length ∧ ∀ (i : Nat) (q : Int × Int × List UInt8), ps[i]? = some q → PieceAt news vs[i]? q

section
variable {prog : Program} {w : World} {p : Program} {loose : List Str} {mean : ExcName → Option Value} {mg mb : Str → Option Value}
  {dp un : Nat} {gd : Option (List Code)} {cn : Str} {cs : Scope} {ad : Addr} {ccd : Value} {cl : List (Str × Addr)} {outer : List Env} {A₀ : Around} {base h₀ : Heap} {L : Addr} {m : Str → Option Value} {news : List (Addr × Obj)} {s : Shared} {Q E : Value → Shared → Prop}
theorem look_call {V P cnt S : Int} {t1 t2 t3 t4 : Tok} {la : Addr} {vs : Array Value} {c : Nat} {ps : List (Int × Int × List UInt8)}
    (hc : 0 ≤ cnt ∧ cnt ≤ 64) (hz : ∀ q ∈ ps, (Builtin.Int.intBits (q.1 - V) : Int) + Builtin.Int.intBits S ≤ 2 ^ 27) (hd : ∀ q ∈ ps, q.2.2.length ≤ 100)
    (H : Here w p loose mean mg mb 1 dp un cs outer A₀ base h₀ L m news s.heap)
    (hl : (la, ({ cls := .type "list", data := .seq vs c } : Obj)) ∈ news) (hp : PiecesAre news vs.toList ps)
    (hret : ∀ t h' tk', Fr h₀ L h' m → News h₀ L h' news → Q (.bytes (lookL V P cnt S ps).toArray t) { s with heap := h', toks := tk' }) :
    wpAny (model prog w) (ktrTop dp un gd cn cs L ad ccd cl outer) (call (.ref 144) [.ref la, .int V t1, .int P t2, .int cnt t3, .int S t4]) Q E s := by
  obtain ⟨B, F, X, N, T, hk, hdp, hu⟩ := H
  refine wpAny_call ?_
  k_dflt ktr_enter
  (repeat' (first | ((with_reducible refine Blk.into ?_); (first | (with_reducible ((show wpAny _ _ (binaryOp .Add (Value.bytes _ _) (Value.bytes _ _)) _ _ _); (refine my_badd ?_ ?_; · first | exact bnd2 (len_t _ _) (len_td _ _ _) (by omega) | exact bnd2 (len_app (len_t _ _) (len_td _ _ _)) (len_td _ _ _) (by omega)); intro t' tk')) | (with_reducible ((show wpAny _ _ (binaryOp .Mult (Value.int _ _) (Value.int _ _)) _ _ _); refine my_mul (by first | omega | (first | with_reducible assumption | assumption)) ?_)) | (with_reducible ((show wpAny _ _ (subscriptTail _ (Expr.Slice _ _ none _) (Value.bytes _ _) (Value.ref _)) _ _ _); (with_reducible rename Fr _ _ _ _ => F'); (with_reducible rename News _ _ _ _ => N'); (refine my_slice (s := ⟨_, _, _, _, _⟩) F' N' (by constructor) (by constructor) (by intro _ e; cases e <;> omega) (by intro _ e; cases e <;> omega) (by first | omega | assumption) ?_); (try clear F' N'); intro _ _ _ F' N'; (try simp only [Option.elim, List.drop_zero, Nat.sub_zero, Int.toNat_zero]))))) | (k_unfold; (try dsimp only)) | (k_end; wrow_close) | walk1 | (dsimp only; walk1) | (leave1; (try dsimp only))))
  refine Blk.into ?_
  rename Fr _ _ _ _ => FW
  with_unfolding_all refine' For_turns FW ?h ?hs ?hE
  case hs => intro _; rfl
  case hE => first | passes_own | with_unfolding_all passes_own
  (repeat' (first | ((with_reducible refine Blk.into ?_); (first | (with_reducible ((show wpAny _ _ (binaryOp .Add (Value.bytes _ _) (Value.bytes _ _)) _ _ _); (refine my_badd ?_ ?_; · first | exact bnd2 (len_t _ _) (len_td _ _ _) (by omega) | exact bnd2 (len_app (len_t _ _) (len_td _ _ _)) (len_td _ _ _) (by omega)); intro t' tk')) | (with_reducible ((show wpAny _ _ (binaryOp .Mult (Value.int _ _) (Value.int _ _)) _ _ _); refine my_mul (by first | omega | (first | with_reducible assumption | assumption)) ?_)) | (with_reducible ((show wpAny _ _ (subscriptTail _ (Expr.Slice _ _ none _) (Value.bytes _ _) (Value.ref _)) _ _ _); (with_reducible rename Fr _ _ _ _ => F'); (with_reducible rename News _ _ _ _ => N'); (refine my_slice (s := ⟨_, _, _, _, _⟩) F' N' (by constructor) (by constructor) (by intro _ e; cases e <;> omega) (by intro _ e; cases e <;> omega) (by first | omega | assumption) ?_); (try clear F' N'); intro _ _ _ F' N'; (try simp only [Option.elim, List.drop_zero, Nat.sub_zero, Int.toNat_zero]))))) | (k_unfold; (try dsimp only)) | (k_end; wrow_close) | walk1 | (dsimp only; walk1) | (leave1; (try dsimp only))))
  refine Blk.into ?_
  rename Fr _ _ _ _ => FW
  rename News _ _ _ _ => NW
  refine' list_turns rfl FW NW (c := c) (vs := vs) ?hm (fun (i : Nat) m₁ nx => nx = news ∧ ∃ tq, m₁ "out" = some (.bytes (lookL V P cnt S (ps.take i)).toArray tq) ∧ m₁ "volume" = some (.int V t1) ∧ m₁ "place" = some (.int P t2) ∧ m₁ "count" = some (.int cnt t3) ∧ m₁ "size" = some (.int S t4)) ?h0 ?hJ ?turn ?done
  case hm => exact hl
  case h0 => exact ⟨rfl, _, out0 _ _ _ _ _ _, by with_unfolding_all rfl, by with_unfolding_all rfl, by with_unfolding_all rfl, by with_unfolding_all rfl⟩
  case hJ => rintro i m₁ nx ⟨rfl, _⟩; exact hl
  case done =>
    clear FW NW
    rintro h' tk m₁ nx ⟨rfl, tq, ho, _⟩ F₁ N₁
    have F₂ := fr_named [(("out" : Str), Value.bytes (lookL V P cnt S (ps.take vs.size)).toArray tq)] (by intro p hp; simp only [List.mem_cons, List.not_mem_nil, or_false] at hp; subst hp; exact ho) F₁
    clear F₁
    dsimp only [kstB] at F₂
    have e1 : ps.take vs.size = ps := List.take_of_length_le (by have := hp.1; simp at this; omega)
    rw [e1] at F₂
    (repeat' (first | ((with_reducible refine Blk.into ?_); (first | (with_reducible ((show wpAny _ _ (binaryOp .Add (Value.bytes _ _) (Value.bytes _ _)) _ _ _); (refine my_badd ?_ ?_; · first | exact bnd2 (len_t _ _) (len_td _ _ _) (by omega) | exact bnd2 (len_app (len_t _ _) (len_td _ _ _)) (len_td _ _ _) (by omega)); intro t' tk')) | (with_reducible ((show wpAny _ _ (binaryOp .Mult (Value.int _ _) (Value.int _ _)) _ _ _); refine my_mul (by first | omega | (first | with_reducible assumption | assumption)) ?_)) | (with_reducible ((show wpAny _ _ (subscriptTail _ (Expr.Slice _ _ none _) (Value.bytes _ _) (Value.ref _)) _ _ _); (with_reducible rename Fr _ _ _ _ => F'); (with_reducible rename News _ _ _ _ => N'); (refine my_slice (s := ⟨_, _, _, _, _⟩) F' N' (by constructor) (by constructor) (by intro _ e; cases e <;> omega) (by intro _ e; cases e <;> omega) (by first | omega | assumption) ?_); (try clear F' N'); intro _ _ _ F' N'; (try simp only [Option.elim, List.drop_zero, Nat.sub_zero, Int.toNat_zero]))))) | (k_unfold; (try dsimp only)) | (k_end; wrow_close) | walk1 | (dsimp only; walk1) | (leave1; (try dsimp only))))
    exact hret _ _ _ (by with_reducible assumption) (by first | with_reducible assumption | ((rename News _ _ _ _ => dN); first | exact ndt dN | exact ndt (ndt dN) | exact ndt (ndt (ndt dN)) | exact ndt (ndt (ndt (ndt dN))) | exact ndt (ndt (ndt (ndt (ndt dN))))))
  case turn =>
    clear FW NW
    rintro I i v m₁ nx h₁ tk₁ it hi hv ⟨rfl, tq, ho, hV, hP, hC, hS⟩ hoff F₁ N₁
    have hi' : i < ps.length := by have := hp.1; simp at this; omega
    obtain ⟨a, tw, ts, td, c', e2, hm⟩ := hp.2 i _ (List.getElem?_eq_getElem hi')
    have e3 : v = .ref a := by have := hv; rw [← Array.getElem?_toList, e2] at this; exact (Option.some.inj this).symm
    subst e3
    have hzq := hz _ (List.getElem_mem hi')
    have hdq := hd _ (List.getElem_mem hi')
    have F₂ := fr_named [(("out" : Str), Value.bytes (lookL V P cnt S (ps.take i)).toArray tq), ("volume", .int V t1), ("place", .int P t2), ("count", .int cnt t3), ("size", .int S t4)] (by intro p hp; simp only [List.mem_cons, List.not_mem_nil, or_false] at hp; rcases hp with rfl | rfl | rfl | rfl | rfl <;> assumption) F₁
    clear F₁
    dsimp only [kstB] at F₂
    have e4 : ps.take (i + 1) = ps.take i ++ [ps[i]] := by rw [List.take_add_one, List.getElem?_eq_getElem hi']; rfl
    have e5 : lookL V P cnt S (ps.take (i + 1)) = lookStep V P cnt S (lookL V P cnt S (ps.take i)) ps[i] := by rw [e4, lookL, List.foldl_append]; rfl
    rw [e5]
    have e6 := lookL_length V P cnt S (ps.take i)
    generalize lookL V P cnt S (ps.take i) = out at *
    generalize ps[i] = q at *
    obtain ⟨wh, st, d⟩ := q
    dsimp only at hm hzq hdq
    (repeat' (first | ((with_reducible refine Blk.into ?_); (first | (with_reducible ((show wpAny _ _ (binaryOp .Add (Value.bytes _ _) (Value.bytes _ _)) _ _ _); (refine my_badd ?_ ?_; · first | exact bnd2 (len_t _ _) (len_td _ _ _) (by omega) | exact bnd2 (len_app (len_t _ _) (len_td _ _ _)) (len_td _ _ _) (by omega)); intro t' tk')) | (with_reducible ((show wpAny _ _ (binaryOp .Mult (Value.int _ _) (Value.int _ _)) _ _ _); refine my_mul (by first | omega | (first | with_reducible assumption | assumption)) ?_)) | (with_reducible ((show wpAny _ _ (subscriptTail _ (Expr.Slice _ _ none _) (Value.bytes _ _) (Value.ref _)) _ _ _); (with_reducible rename Fr _ _ _ _ => F'); (with_reducible rename News _ _ _ _ => N'); (refine my_slice (s := ⟨_, _, _, _, _⟩) F' N' (by constructor) (by constructor) (by intro _ e; cases e <;> omega) (by intro _ e; cases e <;> omega) (by first | omega | assumption) ?_); (try clear F' N'); intro _ _ _ F' N'; (try simp only [Option.elim, List.drop_zero, Nat.sub_zero, Int.toNat_zero]))))) | (k_unfold; (try dsimp only)) | (k_end; wrow_close) | walk1 | (dsimp only; walk1) | (leave1; (try dsimp only))))
    · rw [← step_yes (f := _) (e := _) rfl rfl (by with_reducible assumption)]
      exact ⟨_, _, _, _, rfl, by k_asm, by k_asm, hoff, rfl, _, by with_unfolding_all rfl, by with_unfolding_all rfl, by with_unfolding_all rfl, by with_unfolding_all rfl, by with_unfolding_all rfl⟩
    · rw [← step_no (by with_reducible assumption)]
      exact ⟨_, _, _, _, rfl, by k_asm, by k_asm, hoff, rfl, _, by with_unfolding_all rfl, by with_unfolding_all rfl, by with_unfolding_all rfl, by with_unfolding_all rfl, by with_unfolding_all rfl⟩
end
end Mine01
end
namespace Mine01
theorem rest9 : True ∧ True := by w_top off; first | (walk1; all_goals trivial) | exact ⟨trivial, trivial⟩
end Mine01

section
namespace Mine01
open DivM Lp

theorem allLt_ne {d d' : Nat} {l : List (Addr × Obj)} (h : AllLt d l) (hd : d ≤ d') : ∀ p ∈ l, p.1 ≠ d' := fun p hp e => absurd (allLt_mem h p hp) (by rw [e]; exact Nat.not_lt.mpr hd)
theorem piecesAre_mono {news news' : List (Addr × Obj)} {vs : List Value} {ps : List (Int × Int × List UInt8)} (h : PiecesAre news vs ps) (hs : ∀ q ∈ news, q ∈ news') : PiecesAre news' vs ps :=
  ⟨h.1, fun i q e => let ⟨a, tw, ts, td, c, e1, e2⟩ := h.2 i q e; ⟨a, tw, ts, td, c, e1, hs _ e2⟩⟩
theorem quot_in {bits o size V P : Int} (hb : 0 < bits) (h0 : 0 ≤ o) (h1 : o < 2 ^ bits.toNat * size) (e : o = V * size + P) (hP : 0 ≤ P) (hP1 : P < size) : 0 ≤ V ∧ V < 2 ^ bits.toNat :=
  d21c (h := 0) (by omega) e hP hP1 h0 h1
theorem bits_abs {a : Int} {m : Nat} (h0 : -(2 ^ m) < a) (h : a < 2 ^ m) : (Builtin.Int.intBits a : Int) ≤ m := by
  by_cases hp : 0 ≤ a
  · exact bits_le hp h
  · have : Builtin.Int.intBits a = Builtin.Int.intBits (-a) := by
      unfold Builtin.Int.intBits
      rw [Int.natAbs_neg]
      have e1 : (a == 0) = false := by simp; omega
      have e2 : ((-a) == 0) = false := by simp; omega
      rw [e1, e2]
    rw [this]
    exact bits_le (by omega) (by omega)
theorem piece_bits {bits size q V : Int} (hb : 0 < bits) (hb1 : bits ≤ 8000) (hz0 : 2 ^ (bits.toNat - 1) ≤ size) (hz1 : size < 2 ^ bits.toNat) (h0 : 0 ≤ q) (h1 : q < 2 ^ bits.toNat) (hV : 0 ≤ V) (hV1 : V < 2 ^ bits.toNat) :
    (Builtin.Int.intBits (q - V) : Int) + Builtin.Int.intBits size ≤ 2 ^ 27 := by
  have a1 := bits_abs (a := q - V) (m := bits.toNat) (by omega) (by omega)
  have a2 := bits_le (a := size) (m := bits.toNat) (by have := two_pow_pos (bits.toNat - 1); omega) hz1
  omega
theorem my_lenL {prog : Program} {w : World} {A : Around} {E : Value → Shared → Prop} {s : Shared} {h₀ : Heap} {L : Addr} {news : List (Addr × Obj)} {l : Addr} {vs : Array Value} {c : Nat} {Q : Value → Shared → Prop}
    (N : News h₀ L s.heap news) (hm : (l, ({ cls := .type "list", data := .seq vs c } : Obj)) ∈ news) (hz : vs.size ≤ 16777216) (h : ∀ t k, Q (.int vs.size t) { s with toks := k }) :
    wpAny (model prog w) A (call (.builtin "len") [.ref l]) Q E s :=
  len_list ⟨_, (N _ hm).1, rfl, _, rfl⟩ (by omega) (h _ _)
theorem drop_one (l : List UInt8) : (l.drop (Int.toNat 1)).take (l.length - Int.toNat 1) = l.drop 1 := by
  rw [show Int.toNat 1 = 1 from rfl]
  exact List.take_of_length_le (by rw [List.length_drop]; omega)
theorem cells_six {cm : Str → Option Value} {n₁ n₂ n₃ n₄ n₅ n₆ : Str} {c₁ c₂ c₃ c₄ c₅ c₆ : Addr} {cells : List (Addr × Obj)} (x : CellsAre cm [(n₁, c₁), (n₂, c₂), (n₃, c₃), (n₄, c₄), (n₅, c₅), (n₆, c₆)] cells) :
    ∃ o₁ o₂ o₃ o₄ o₅ o₆, cells = [(c₁, o₁), (c₂, o₂), (c₃, o₃), (c₄, o₄), (c₅, o₅), (c₆, o₆)] ∧ o₁.data = .cell (cm n₁) ∧ o₂.data = .cell (cm n₂) ∧ o₃.data = .cell (cm n₃) ∧ o₄.data = .cell (cm n₄) ∧ o₅.data = .cell (cm n₅) ∧ o₆.data = .cell (cm n₆) := by
  cases x with
  | cons h r =>
    cases r with
    | cons h2 r2 =>
      obtain ⟨o₃, o₄, o₅, o₆, rfl, h₃, h₄, h₅, h₆⟩ := r2.four
      exact ⟨_, _, o₃, o₄, o₅, o₆, rfl, h, h2, h₃, h₄, h₅, h₆⟩

/-- what a call of seek does: the offset is stored, and nothing else -/
abbrev SeekK (prog : Program) (w : World) (p : Program) (loose : List Str) (mean : ExcName → Option Value) (mg mb : Str → Option Value) (dx fs : Addr) (td : Value → Obj) (S : List (Addr × Obj)) : Prop :=
  ∀ (o : Int) (to : Tok) (v : Value) (dp un : Nat) (gd : Option (List Code)) (cn : Str) (cs : Scope) (ad : Addr) (ccd : Value) (cl : List (Str × Addr)) (outer : List Env) (A₀ : Around) (base h₀ : Heap) (L : Addr) (m : Str → Option Value) (rest : List (Addr × Obj)) (s : Shared) (Q E : Value → Shared → Prop),
    Here w p loose mean mg mb 5 dp un cs outer A₀ base h₀ L m ((dx, td v) :: rest) s.heap → (∀ q ∈ S, q ∈ rest) → (∀ q ∈ rest, q.1 ≠ dx) →
    (∀ h' tk', Fr h₀ L h' m → News h₀ L h' ((dx, td (.int o to)) :: rest) → Q .none { s with heap := h', toks := tk' }) →
    wpAny (model prog w) (ktrTop dp un gd cn cs L ad ccd cl outer) (call (.ref fs) [.int o to]) Q E s
/-- what a call of read does -/
abbrev ReadK (prog : Program) (w : World) (p : Program) (loose : List Str) (mean : ExcName → Option Value) (mg mb : Str → Option Value) (dx qa fr : Addr) (td : Value → Obj) (S : List (Addr × Obj)) (size bits cut : Int) (la : Addr) (vs : Array Value) (lc : Nat) (ps : List (Int × Int × List UInt8)) : Prop :=
  ∀ (o cnt : Int) (to tc : Tok) (items : Array Value) (ep : Nat) (dp un : Nat) (gd : Option (List Code)) (cn : Str) (cs : Scope) (ad : Addr) (ccd : Value) (cl : List (Str × Addr)) (outer : List Env) (A₀ : Around) (base h₀ : Heap) (L : Addr) (m : Str → Option Value) (rest : List (Addr × Obj)) (s : Shared) (Q E : Value → Shared → Prop),
    Here w p loose mean mg mb 5 dp un cs outer A₀ base h₀ L m ((dx, td (.int o to)) :: (qa, { cls := .type "list", data := .seq items ep }) :: rest) s.heap → (∀ q ∈ S, q ∈ rest) → (∀ q ∈ rest, q.1 ≠ dx ∧ q.1 ≠ qa) → dx ≠ qa →
    0 ≤ o → o < 2 ^ bits.toNat * size → 0 ≤ cnt → cnt ≤ 64 → items.size ≤ 10 → (la, ({ cls := .type "list", data := .seq vs lc } : Obj)) ∈ rest → PiecesAre rest vs.toList ps →
    (∀ (V P : Int) (D : Addr) (tV tP t : Tok) (c ep' : Nat) h' tk', V * size + P = o → 0 ≤ P → P < size → (∀ q ∈ rest, q.1 < D) → dx < D → qa < D → Fr h₀ L h' m →
      News h₀ L h' ((D, { cls := .type "tuple", data := .seq #[.int V tV, .int P tP, .int cnt tc] c }) :: (dx, td (.int o to)) :: (qa, { cls := .type "list", data := .seq (items.push (.ref D)) ep' }) :: rest) →
      Q (.bytes ((if ((items.size : Int) + 1 = cut) then (lookL V P cnt size ps).drop 1 else lookL V P cnt size ps)).toArray t) { s with heap := h', toks := tk' }) →
    wpAny (model prog w) (ktrTop dp un gd cn cs L ad ccd cl outer) (call (.ref fr) [.int cnt tc]) Q E s
/-- how the tape's two are met -/
abbrev GetK (prog : Program) (w : World) (x dx f : Addr) (name : Str) (td : Value → Obj) (S : List (Addr × Obj)) : Prop :=
  ∀ (v : Value) (A : Around) (h₀ : Heap) (L : Addr) (m : Str → Option Value) (rest : List (Addr × Obj)) (s : Shared) (pl : Sem Bool) (Q : Value × List Value → Shared → Prop) (E : Value → Shared → Prop),
    Fr h₀ L s.heap m → (hd.heap_39 w.params).In h₀ → News h₀ L s.heap ((dx, td v) :: rest) → (∀ q ∈ S, q ∈ rest) →
    (∀ tk', Q (.ref f, []) { s with toks := tk' }) → wpAny (model prog w) A (getMethod (.ref x) name pl) Q E s
abbrev seekQ : Str := Str.ofString "_law_tape.<locals>._law_seek"
abbrev readQ : Str := Str.ofString "_law_tape.<locals>._law_read"
/-- the code table of the tape's def, both of its defs made -/
abbrev hitTb (c1 c2 : Addr) : Array Value := #[rawInt 131, rawInt 4, .ref c1, rawInt 134, rawInt 4, .ref c2]
inductive TabHit (news : List (Addr × Obj)) (c1 c2 : Addr) : Prop
  | mk (oc1 oc2 : Obj) (v1 v2 : Array Value) (t1 t2 : Tok) (m1 : (c1, oc1) ∈ news) (m2 : (c2, oc2) ∈ news) (g1 : oc1.data = .fields v1) (g2 : v1[1]? = some (.str seekQ t1)) (g3 : oc2.data = .fields v2) (g4 : v2[1]? = some (.str readQ t2)) : TabHit news c1 c2
/-- the function stands there -/
abbrev FnK (f : Addr) (S : List (Addr × Obj)) : Prop := ∀ (h₀ h : Heap) (L : Addr) (news : List (Addr × Obj)), News h₀ L h news → (∀ q ∈ S, q ∈ news) → FnAt f h
section
variable {prog : Program} {w : World} {p : Program} {loose : List Str} {mean : ExcName → Option Value} {mg mb : Str → Option Value}
  {dp un : Nat} {gd : Option (List Code)} {cn : Str} {cs : Scope} {ad : Addr} {ccd : Value} {cl : List (Str × Addr)} {outer : List Env} {A₀ : Around} {base h₀ : Heap} {L : Addr} {m : Str → Option Value} {news : List (Addr × Obj)} {s : Shared} {Q E : Value → Shared → Prop}
theorem tape_fin {old : List (Addr × Obj)} {size bits cut : Int} {la qa : Addr} {vs : Array Value} {c : Nat} {ps : List (Int × Int × List UInt8)} {tb : Array Value} {f2 c2 f1 c1 x dx : Addr} {of2 oc2 of1 oc1 ox : Obj} {k1 k2 k3 k4 k5 k6 : Addr × Obj} {e1 e3 e4 : DictEntry} {hh : Int} {kk : Value} {t0 : Tok} {n : Nat} {h : Heap} {tk : Nat}
    (F : Fr h₀ L h m) (N : News h₀ L h ((f2, of2) :: (c2, oc2) :: (f1, of1) :: (c1, oc1) :: (x, ox) :: (dx, dictOf [e1, ⟨hh, kk, .int 0 t0⟩, e3, e4] n) :: k6 :: k5 :: k4 :: k3 :: k2 :: k1 :: (153, tabObj tb) :: news))
    (hret : ∀ (k1 k2 : Addr) (x dx fs fr : Addr) (td : Value → Obj) (S : List (Addr × Obj)) h' tk' t0,
      Fr h₀ L h' m → News h₀ L h' ((153, tabObj (hitTb k1 k2)) :: (dx, td (.int 0 t0)) :: (S ++ news)) → (∀ q ∈ S, @Ne Nat q.1 dx ∧ (q ∈ old ∨ ∀ r ∈ news, @Ne Nat q.1 r.1)) → (∀ r ∈ news, @Ne Nat r.1 dx) → @Ne Nat 153 dx → TabHit S k1 k2 →
      SeekK prog w p loose mean mg mb dx fs td S → ReadK prog w p loose mean mg mb dx qa fr td S size bits cut la vs c ps → GetK prog w x dx fs "seek" td S → GetK prog w x dx fr "read" td S → FnK fs S → FnK fr S → Q (.ref x) { s with heap := h', toks := tk' })
    (hs : SeekK prog w p loose mean mg mb dx f1 (fun v => dictOf [e1, ⟨hh, kk, v⟩, e3, e4] n) [(f2, of2), (c2, oc2), (f1, of1), (c1, oc1), (x, ox), k6, k5, k4, k3, k2, k1])
    (hr : ReadK prog w p loose mean mg mb dx qa f2 (fun v => dictOf [e1, ⟨hh, kk, v⟩, e3, e4] n) [(f2, of2), (c2, oc2), (f1, of1), (c1, oc1), (x, ox), k6, k5, k4, k3, k2, k1] size bits cut la vs c ps)
    (hg : GetK prog w x dx f1 "seek" (fun v => dictOf [e1, ⟨hh, kk, v⟩, e3, e4] n) [(f2, of2), (c2, oc2), (f1, of1), (c1, oc1), (x, ox), k6, k5, k4, k3, k2, k1])
    (hg2 : GetK prog w x dx f2 "read" (fun v => dictOf [e1, ⟨hh, kk, v⟩, e3, e4] n) [(f2, of2), (c2, oc2), (f1, of1), (c1, oc1), (x, ox), k6, k5, k4, k3, k2, k1])
    {Lx : Nat} (hSL : ∀ q ∈ [(f2, of2), (c2, oc2), (f1, of1), (c1, oc1), (x, ox), k6, k5, k4, k3, k2, k1], (q ∈ old ∨ @LT.lt Nat instLTNat Lx q.1) ∧ @Ne Nat q.1 dx) (hLd : @LT.lt Nat instLTNat Lx dx) (h3 : @LT.lt Nat instLTNat 153 Lx) (hnL : AllLt Lx news)
    (htb : tb = hitTb c1 c2) {v1 v2 : Array Value} {q1 q2 : Str} {tt1 tt2 : Tok} (g1 : oc1.data = .fields v1) (g2 : v1[1]? = some (.str q1 tt1)) (g3 : oc2.data = .fields v2) (g4 : v2[1]? = some (.str q2 tt2)) (g5 : q1 = seekQ) (g6 : q2 = readQ)
    (hf1 : FnK f1 [(f2, of2), (c2, oc2), (f1, of1), (c1, oc1), (x, ox), k6, k5, k4, k3, k2, k1]) (hf2 : FnK f2 [(f2, of2), (c2, oc2), (f1, of1), (c1, oc1), (x, ox), k6, k5, k4, k3, k2, k1]) : Q (.ref x) { s with heap := h, toks := tk } :=
by
  subst htb g5 g6
  exact hret c1 c2 x dx f1 f2 (fun v => dictOf [e1, ⟨hh, kk, v⟩, e3, e4] n) [(f2, of2), (c2, oc2), (f1, of1), (c1, oc1), (x, ox), k6, k5, k4, k3, k2, k1] h tk t0 F (fun q hq => N q (by
    simp only [List.cons_append, List.nil_append, List.mem_cons] at hq ⊢
    rcases hq with h | h | h | h | h | h | h | h | h | h | h | h | h | h <;> simp only [h, true_or, or_true]))
    (fun q hq => ⟨(hSL q hq).2, (hSL q hq).1.imp (fun h => h) fun h r hr e => absurd (allLt_mem hnL r hr) (by rw [e] at h; exact Nat.lt_asymm h)⟩) (fun r hr e => absurd (allLt_mem hnL r hr) (by rw [show (r.1 : Nat) = dx from e]; exact Nat.lt_asymm hLd)) (Nat.ne_of_lt (Nat.lt_trans h3 hLd)) ⟨oc1, oc2, v1, v2, tt1, tt2, .tail _ (.tail _ (.tail _ (.head _))), .tail _ (.head _), g1, g2, g3, g4⟩ hs hr hg hg2 hf1 hf2

theorem hit_led {h₀ h : Heap} {L f1 f2 c1 c2 : Addr} {of1 of2 oc1 oc2 : Obj} {r news : List (Addr × Obj)} (N : News h₀ L h ((f2, of2) :: (f1, of1) :: r)) (m1 : (c1, oc1) ∈ news) (m2 : (c2, oc2) ∈ news) (hs : ∀ q ∈ news, q ∈ r := by intro q hq; repeat (first | exact hq | refine List.Mem.tail _ ?_)) :
    News h₀ L h ((f2, of2) :: (c2, oc2) :: (f1, of1) :: (c1, oc1) :: r) := cb_drop N fun q hq => by
  simp only [List.mem_cons] at hq ⊢
  rcases hq with h | h | h | h | h
  · exact .inl h
  · subst h; exact .inr (.inr (hs _ m2))
  · exact .inr (.inl h)
  · subst h; exact .inr (.inr (hs _ m1))
  · exact .inr (.inr h)
theorem stTa1 {M A Q E s y0} (h : Blk (wpAny M A (call (Value.builtin "len") [Value.ref y0]) Q E s)) : wpAny M A (call (Value.builtin "len") [Value.ref y0]) Q E s := h
local macro_rules | `(tactic| walk_at "call builtin:len") => `(tactic| with_reducible refine stTa1 ?_)
theorem stTa2 {M A Q E s y0 y1 y2 y3 y4 y5 y6} (h : Blk (wpAny M A (subscriptTail y0 (Expr.Slice y1 y2 none y3) (Value.bytes y4 y5) (Value.ref y6)) Q E s)) : wpAny M A (subscriptTail y0 (Expr.Slice y1 y2 none y3) (Value.bytes y4 y5) (Value.ref y6)) Q E s := h
local macro_rules | `(tactic| walk_at "subscriptTail") => `(tactic| with_reducible refine stTa2 ?_)
local macro_rules | `(tactic| walk_at "call ref") => `(tactic| refine Blk.out ?_)
theorem tape_call {old : List (Addr × Obj)} {size bits cut : Int} {t1 t2 t3 : Tok} {la qa : Addr} {vs : Array Value} {c : Nat} {ps : List (Int × Int × List UInt8)}
    (hb0 : 0 < bits) (hb1 : bits ≤ 8000) (hz0 : 2 ^ (bits.toNat - 1) ≤ size) (hz1 : size < 2 ^ bits.toNat) (hps : ∀ q ∈ ps, 0 ≤ q.1 ∧ q.1 < 2 ^ bits.toNat ∧ q.2.2.length ≤ 100)
    (C : CodeHd base 157 153) (hn153 : ∀ p ∈ news, p.1 ≠ 153)
    (H : Here w p loose mean mg mb 10 dp un cs outer A₀ base h₀ L m ((153, tabObj #[]) :: news) s.heap)
    (hret : ∀ (k1 k2 : Addr) (x dx fs fr : Addr) (td : Value → Obj) (S : List (Addr × Obj)) h' tk' t0,
      Fr h₀ L h' m → News h₀ L h' ((153, tabObj (hitTb k1 k2)) :: (dx, td (.int 0 t0)) :: (S ++ news)) → (∀ q ∈ S, @Ne Nat q.1 dx ∧ (q ∈ old ∨ ∀ r ∈ news, @Ne Nat q.1 r.1)) → (∀ r ∈ news, @Ne Nat r.1 dx) → @Ne Nat 153 dx → TabHit S k1 k2 →
      SeekK prog w p loose mean mg mb dx fs td S → ReadK prog w p loose mean mg mb dx qa fr td S size bits cut la vs c ps → GetK prog w x dx fs "seek" td S → GetK prog w x dx fr "read" td S → FnK fs S → FnK fr S → Q (.ref x) { s with heap := h', toks := tk' }) :
    wpAny (model prog w) (ktrTop dp un gd cn cs L ad ccd cl outer) (call (.ref 158) [.ref la, .int size t1, .int bits t2, .int cut t3, .ref qa]) Q E s := by
  obtain ⟨B, F, X, N, T, hk, hdp, hu⟩ := H
  refine wpAny_call ?_
  k_dflt ((refine' code_defC ?k1_4 ?k2_4 ?k3_4 ?k4_4 ?k5_4 ?kA_4 ?kF_4 ?kK_4 ?k6_4 ?k7_4 ?k8_4 ?k9_4 ?kB_4 ?kD_4 ?_ ?c2_4 ?c3_4 ?c4_4; (case kA_4 => exact rfl); (case kF_4 => exact rfl); (case kK_4 => (first | with_reducible assumption | assumption)); (case k1_4 => k_asm); (case k2_4 => k_asm); (case k3_4 => k_asm); (case k4_4 => k_asm); (case k5_4 => k_asm); (case k6_4 => k_is); (case k7_4 => k_is); (case k8_4 => ktr_room); (case k9_4 => exact BindsTo.of_eq rfl); (case kB_4 => exact rfl); (case kD_4 => decide +kernel); (case c2_4 => exact rfl); (case c3_4 => exact rfl); (case c4_4 => exact rfl); k_whole; intro g' L' h' tk' cells' FG' F' N' Y' B' X' T' lc9'; (try k_lt lc9'); (try simp only [List.cons_append, List.nil_append] at N'); (try dsimp only); (try k_lift B'); (try k_fold)))
  rename CellsAre _ _ _ => Y
  obtain ⟨o1, o2, o3, o4, o5, o6, hE, d1, d2, d3, d4, d5, d6⟩ := cells_six Y
  subst hE
  clear Y
  rename _ ∧ AllLt _ _ => l1
  have hL := l1.2
  rename Below _ _ _ _ => B9
  have hC := CodeHd.keeps C (Below.stays B9)
  rename News _ _ _ _ => N'
  simp only [List.cons_append, List.nil_append] at N'
  (repeat' (first | ((with_reducible refine Blk.into ?_); (first | (((with_reducible show wpAny _ _ (call (Value.builtin "len") [Value.ref _]) _ _ _); (refine my_lenL (by k_asm) (by k_mem) (by (simp only [Array.size_push, List.size_toArray, List.length_cons, List.length_nil]; omega)) ?_); (try simp only [Array.size_push]); intro _ _)) | (with_reducible ((show wpAny _ _ (subscriptTail _ (Expr.Slice _ _ none _) (Value.bytes _ _) (Value.ref _)) _ _ _); (with_reducible rename Fr _ _ _ _ => F'); (with_reducible rename News _ _ _ _ => N'); (refine my_slice (s := ⟨_, _, _, _, _⟩) F' N' (by constructor) (by constructor) (by intro _ e; cases e <;> omega) (by intro _ e; cases e <;> omega) (by first | omega | (rw [lookL_length]; omega)) ?_); (try clear F' N'); intro _ _ _ F' N'; (try simp only [Option.elim, List.drop_zero, Nat.sub_zero, Int.toNat_zero]))) | ((with_reducible show wpAny _ _ (call (Value.ref _) _) _ _ _); k_dflt (refine' call_cls ?ks1_5 ?ks2_5 ?ks3_5 ?ks4_5 ?ks5_5 ?ks6_5 ?_; (case ks1_5 => k_asm); (case ks2_5 => k_asm); (case ks3_5 => k_asm); (case ks4_5 => k_is); (case ks5_5 => k_is); (case ks6_5 => k_is); k_whole; intro xq' dq' hq' Fq' Nq' lq1' lq2'; (try k_lt lq1'); (try k_lt2 lq2'); (try k_sweep); (refine' code_def ?k1_6 ?k2_6 ?k3_6 ?k4_6 ?k5_6 ?kA_6 ?kF_6 ?kK_6 ?k6_6 ?k7_6 ?k8_6 ?k9_6 ?kB_6 ?_ ?c2_6 ?c3_6 ?c4_6 ?c5_6; (case kA_6 => exact rfl); (case kF_6 => exact rfl); (case kK_6 => first | exact rfl | (first | with_reducible assumption | assumption)); (case k1_6 => k_asm); (case k2_6 => k_asm); (case k3_6 => k_asm); (case k4_6 => k_asm); (case k5_6 => k_asm); (case k6_6 => k_is); (case k7_6 => k_is); (case k8_6 => ktr_room); (case k9_6 => first | exact BindsTo.of_eq rfl | exact binds_K (by k_in) rfl (by k_is) rfl rfl rfl); (case c5_6 => decide); (case kB_6 => exact locs rfl); (case c2_6 => exact rfl); (case c3_6 => exact rfl); (case c4_6 => exact rfl); k_whole; intro g' L' h' FG' F' N' B' X' T'; (try dsimp only); (try k_lift B'); (try k_fold)))))) | (k_unfold; (try dsimp only)) | (k_end; wrow_close) | walk1 | (dsimp only; walk1) | (leave1; (try dsimp only))))
  rename Fr _ _ _ _ => FF
  rename News _ _ _ _ => NN
  refine tape_fin FF NN hret ?_ ?_ ?_ ?_ (by ((repeat (refine List.forall_mem_cons.mpr ⟨⟨by first | exact .inr (by ((try dsimp only); first | with_reducible assumption | exact Cm.lp1 (by with_reducible assumption) | exact Cm.lp2 (by with_reducible assumption) | exact Cm.lp3 (by with_reducible assumption) | exact Cm.lp4 (by with_reducible assumption) | exact Cm.lp5 (by with_reducible assumption) | exact Cm.lp6 (by with_reducible assumption) | exact Cm.lp7 (by with_reducible assumption) | omega)) | exact .inl (by (first | with_reducible assumption | assumption)), by ((try dsimp only); first | with_reducible assumption | (symm; with_reducible assumption) | exact Cm.nl1 (by with_reducible assumption) | exact Cm.ng1 (by with_reducible assumption) | exact Cm.nl2 (by with_reducible assumption) | exact Cm.ng2 (by with_reducible assumption) | exact Cm.nl3 (by with_reducible assumption) | exact Cm.ng3 (by with_reducible assumption) | exact Cm.nl4 (by with_reducible assumption) | exact Cm.ng4 (by with_reducible assumption) | exact Cm.nl5 (by with_reducible assumption) | exact Cm.ng5 (by with_reducible assumption) | exact Cm.nl6 (by with_reducible assumption) | exact Cm.ng6 (by with_reducible assumption) | exact Cm.nl7 (by with_reducible assumption) | exact Cm.ng7 (by with_reducible assumption) | exact Cm.nn1 (by with_reducible assumption) | exact Cm.nm1 (by with_reducible assumption) | exact Cm.nn2 (by with_reducible assumption) | exact Cm.nm2 (by with_reducible assumption) | exact Cm.nn3 (by with_reducible assumption) | exact Cm.nm3 (by with_reducible assumption) | exact Cm.nn4 (by with_reducible assumption) | exact Cm.nm4 (by with_reducible assumption) | exact Cm.nn5 (by with_reducible assumption) | exact Cm.nm5 (by with_reducible assumption) | omega)⟩, ?_⟩)); exact List.forall_mem_nil _)) (by omega) l1.1 hL (by rfl) (by (first | with_reducible assumption | assumption)) (by (first | with_reducible assumption | assumption)) (by (first | with_reducible assumption | assumption)) (by (first | with_reducible assumption | assumption)) (by rfl) (by rfl) ?_ ?_
  · intro o to v dp un gd cn cs ad ccd cl outer A₀ base h₀ L m rest s Q E H hS hd hret
    obtain ⟨B, F, X, N, T, hk, hdp, hu⟩ := H
    have s0 := hS _ (.head _)
    have s1 := hS _ (.tail _ (.head _))
    have s2 := hS _ (.tail _ (.tail _ (.head _)))
    have s3 := hS _ (.tail _ (.tail _ (.tail _ (.head _))))
    have s4 := hS _ (.tail _ (.tail _ (.tail _ (.tail _ (.head _)))))
    have s5 := hS _ (.tail _ (.tail _ (.tail _ (.tail _ (.tail _ (.head _))))))
    clear hS
    dsimp only at N hret
    refine wpAny_call ?_
    k_dflt ((refine' code_nest ?k1_7 ?k2_7 ?k3_7 ?k4_7 ?k5_7 ?kA_7 ?kF_7 ?kK_7 ?k6_7 ?k7_7 ?k8_7 ?k9_7 ?kB_7 ?_ ?c2_7 ?c3_7 ?c4_7 ?c5_7; (case kA_7 => exact rfl); (case kF_7 => exact rfl); (case kK_7 => first | exact rfl | (first | with_reducible assumption | assumption)); (case k1_7 => k_asm); (case k2_7 => k_asm); (case k3_7 => k_asm); (case k4_7 => k_asm); (case k5_7 => k_asm); (case k6_7 => k_mem); (case k7_7 => exact codeRec_news (by k_asm) (by k_mem) (by (first | with_reducible assumption | assumption)) (by (first | with_reducible assumption | assumption))); (case k8_7 => ktr_room); (case k9_7 => exact BindsTo.of_eq rfl); (case c5_7 => decide); (case kB_7 => exact locs rfl); (case c2_7 => exact rfl); (case c3_7 => exact rfl); (case c4_7 => exact rfl); k_whole; intro g' L' h' FG' F' N' B' X' T'; (try dsimp only); (try k_lift B'); (try k_fold)))
    (repeat' (first | ((with_reducible refine Blk.into ?_); (first | (((with_reducible show wpAny _ _ (call (Value.builtin "len") [Value.ref _]) _ _ _); (refine my_lenL (by k_asm) (by k_mem) (by (simp only [Array.size_push, List.size_toArray, List.length_cons, List.length_nil]; omega)) ?_); (try simp only [Array.size_push]); intro _ _)) | (with_reducible ((show wpAny _ _ (subscriptTail _ (Expr.Slice _ _ none _) (Value.bytes _ _) (Value.ref _)) _ _ _); (with_reducible rename Fr _ _ _ _ => F'); (with_reducible rename News _ _ _ _ => N'); (refine my_slice (s := ⟨_, _, _, _, _⟩) F' N' (by constructor) (by constructor) (by intro _ e; cases e <;> omega) (by intro _ e; cases e <;> omega) (by first | omega | (rw [lookL_length]; omega)) ?_); (try clear F' N'); intro _ _ _ F' N'; (try simp only [Option.elim, List.drop_zero, Nat.sub_zero, Int.toNat_zero]))) | ((with_reducible show wpAny _ _ (call (Value.ref _) _) _ _ _); k_dflt (refine' call_cls ?ks1_8 ?ks2_8 ?ks3_8 ?ks4_8 ?ks5_8 ?ks6_8 ?_; (case ks1_8 => k_asm); (case ks2_8 => k_asm); (case ks3_8 => k_asm); (case ks4_8 => k_is); (case ks5_8 => k_is); (case ks6_8 => k_is); k_whole; intro xq' dq' hq' Fq' Nq' lq1' lq2'; (try k_lt lq1'); (try k_lt2 lq2'); (try k_sweep); (refine' code_def ?k1_9 ?k2_9 ?k3_9 ?k4_9 ?k5_9 ?kA_9 ?kF_9 ?kK_9 ?k6_9 ?k7_9 ?k8_9 ?k9_9 ?kB_9 ?_ ?c2_9 ?c3_9 ?c4_9 ?c5_9; (case kA_9 => exact rfl); (case kF_9 => exact rfl); (case kK_9 => first | exact rfl | (first | with_reducible assumption | assumption)); (case k1_9 => k_asm); (case k2_9 => k_asm); (case k3_9 => k_asm); (case k4_9 => k_asm); (case k5_9 => k_asm); (case k6_9 => k_is); (case k7_9 => k_is); (case k8_9 => ktr_room); (case k9_9 => first | exact BindsTo.of_eq rfl | exact binds_K (by k_in) rfl (by k_is) rfl rfl rfl); (case c5_9 => decide); (case kB_9 => exact locs rfl); (case c2_9 => exact rfl); (case c3_9 => exact rfl); (case c4_9 => exact rfl); k_whole; intro g' L' h' FG' F' N' B' X' T'; (try dsimp only); (try k_lift B'); (try k_fold)))))) | (k_unfold; (try dsimp only)) | (k_end; wrow_close) | walk1 | (dsimp only; walk1) | (leave1; (try dsimp only))))
    exact hret _ _ (by k_asm) (by k_asm)
  · intro o cnt to tc items ep dp un gd cn cs ad ccd cl outer A₀ base h₀ L m rest s Q E H hS hd hdq ho0 ho1 hc0 hc1 hi hl hp hret
    obtain ⟨B, F, X, N, T, hk, hdp, hu⟩ := H
    have s0 := hS _ (.head _)
    have s1 := hS _ (.tail _ (.head _))
    have s2 := hS _ (.tail _ (.tail _ (.head _)))
    have s3 := hS _ (.tail _ (.tail _ (.tail _ (.head _))))
    have s4 := hS _ (.tail _ (.tail _ (.tail _ (.tail _ (.head _)))))
    have s5 := hS _ (.tail _ (.tail _ (.tail _ (.tail _ (.tail _ (.head _))))))
    have s6 := hS _ (.tail _ (.tail _ (.tail _ (.tail _ (.tail _ (.tail _ (.head _)))))))
    have s7 := hS _ (.tail _ (.tail _ (.tail _ (.tail _ (.tail _ (.tail _ (.tail _ (.head _))))))))
    have s8 := hS _ (.tail _ (.tail _ (.tail _ (.tail _ (.tail _ (.tail _ (.tail _ (.tail _ (.head _)))))))))
    have s9 := hS _ (.tail _ (.tail _ (.tail _ (.tail _ (.tail _ (.tail _ (.tail _ (.tail _ (.tail _ (.head _))))))))))
    have s10 := hS _ (.tail _ (.tail _ (.tail _ (.tail _ (.tail _ (.tail _ (.tail _ (.tail _ (.tail _ (.tail _ (.head _)))))))))))
    clear hS
    dsimp only at N hret
    have hd1 : ∀ q ∈ rest, q.1 ≠ _ := fun q hq => (hd q hq).1
    have hd2 : ∀ q ∈ rest, q.1 ≠ qa := fun q hq => (hd q hq).2
    have hdq' := neN hdq
    refine wpAny_call ?_
    k_dflt ((refine' code_nest ?k1_10 ?k2_10 ?k3_10 ?k4_10 ?k5_10 ?kA_10 ?kF_10 ?kK_10 ?k6_10 ?k7_10 ?k8_10 ?k9_10 ?kB_10 ?_ ?c2_10 ?c3_10 ?c4_10 ?c5_10; (case kA_10 => exact rfl); (case kF_10 => exact rfl); (case kK_10 => first | exact rfl | (first | with_reducible assumption | assumption)); (case k1_10 => k_asm); (case k2_10 => k_asm); (case k3_10 => k_asm); (case k4_10 => k_asm); (case k5_10 => k_asm); (case k6_10 => k_mem); (case k7_10 => exact codeRec_news (by k_asm) (by k_mem) (by (first | with_reducible assumption | assumption)) (by (first | with_reducible assumption | assumption))); (case k8_10 => ktr_room); (case k9_10 => exact BindsTo.of_eq rfl); (case c5_10 => decide); (case kB_10 => exact locs rfl); (case c2_10 => exact rfl); (case c3_10 => exact rfl); (case c4_10 => exact rfl); k_whole; intro g' L' h' FG' F' N' B' X' T'; (try dsimp only); (try k_lift B'); (try k_fold)))
    (repeat' (first | ((with_reducible refine Blk.into ?_); (first | (((with_reducible show wpAny _ _ (call (Value.builtin "len") [Value.ref _]) _ _ _); (refine my_lenL (by k_asm) (by k_mem) (by (simp only [Array.size_push, List.size_toArray, List.length_cons, List.length_nil]; omega)) ?_); (try simp only [Array.size_push]); intro _ _)) | (with_reducible ((show wpAny _ _ (subscriptTail _ (Expr.Slice _ _ none _) (Value.bytes _ _) (Value.ref _)) _ _ _); (with_reducible rename Fr _ _ _ _ => F'); (with_reducible rename News _ _ _ _ => N'); (refine my_slice (s := ⟨_, _, _, _, _⟩) F' N' (by constructor) (by constructor) (by intro _ e; cases e <;> omega) (by intro _ e; cases e <;> omega) (by first | omega | (rw [lookL_length]; omega)) ?_); (try clear F' N'); intro _ _ _ F' N'; (try simp only [Option.elim, List.drop_zero, Nat.sub_zero, Int.toNat_zero]))) | ((with_reducible show wpAny _ _ (call (Value.ref _) _) _ _ _); k_dflt (refine' call_cls ?ks1_11 ?ks2_11 ?ks3_11 ?ks4_11 ?ks5_11 ?ks6_11 ?_; (case ks1_11 => k_asm); (case ks2_11 => k_asm); (case ks3_11 => k_asm); (case ks4_11 => k_is); (case ks5_11 => k_is); (case ks6_11 => k_is); k_whole; intro xq' dq' hq' Fq' Nq' lq1' lq2'; (try k_lt lq1'); (try k_lt2 lq2'); (try k_sweep); (refine' code_def ?k1_12 ?k2_12 ?k3_12 ?k4_12 ?k5_12 ?kA_12 ?kF_12 ?kK_12 ?k6_12 ?k7_12 ?k8_12 ?k9_12 ?kB_12 ?_ ?c2_12 ?c3_12 ?c4_12 ?c5_12; (case kA_12 => exact rfl); (case kF_12 => exact rfl); (case kK_12 => first | exact rfl | (first | with_reducible assumption | assumption)); (case k1_12 => k_asm); (case k2_12 => k_asm); (case k3_12 => k_asm); (case k4_12 => k_asm); (case k5_12 => k_asm); (case k6_12 => k_is); (case k7_12 => k_is); (case k8_12 => ktr_room); (case k9_12 => first | exact BindsTo.of_eq rfl | exact binds_K (by k_in) rfl (by k_is) rfl rfl rfl); (case c5_12 => decide); (case kB_12 => exact locs rfl); (case c2_12 => exact rfl); (case c3_12 => exact rfl); (case c4_12 => exact rfl); k_whole; intro g' L' h' FG' F' N' B' X' T'; (try dsimp only); (try k_lift B'); (try k_fold)))))) | (k_unfold; (try dsimp only)) | (k_end; wrow_close) | walk1 | (dsimp only; walk1) | (leave1; (try dsimp only))))
    refine Blk.into ?_
    k_dflt (refine' use21 (div21_all 1) ?kn ?ka ?k1 ?k2 ?k3 ?k4 ?k5 ?kK ?kd ?ku ?_)
    case k1 => k_asm
    case k2 => k_asm
    case k3 => k_asm
    case k4 => k_asm
    case k5 => k_asm
    case kK => exact rfl
    case kd => simp only [depth_deeper]; omega
    case ku => simp only [units_deeper]; omega
    case kn => omega
    case ka => exact ⟨ho0, hz0, hz1, ho1⟩
    intro V P D' tV tP cD hD tkD eD hP0 hP1 F1 N1 l1
    replace l1 := allLt_of l1
    simp only [AllLt] at l1
    (repeat' (first | ((with_reducible refine Blk.into ?_); (first | (((with_reducible show wpAny _ _ (call (Value.builtin "len") [Value.ref _]) _ _ _); (refine my_lenL (by k_asm) (by k_mem) (by (simp only [Array.size_push, List.size_toArray, List.length_cons, List.length_nil]; omega)) ?_); (try simp only [Array.size_push]); intro _ _)) | (with_reducible ((show wpAny _ _ (subscriptTail _ (Expr.Slice _ _ none _) (Value.bytes _ _) (Value.ref _)) _ _ _); (with_reducible rename Fr _ _ _ _ => F'); (with_reducible rename News _ _ _ _ => N'); (refine my_slice (s := ⟨_, _, _, _, _⟩) F' N' (by constructor) (by constructor) (by intro _ e; cases e <;> omega) (by intro _ e; cases e <;> omega) (by first | omega | (rw [lookL_length]; omega)) ?_); (try clear F' N'); intro _ _ _ F' N'; (try simp only [Option.elim, List.drop_zero, Nat.sub_zero, Int.toNat_zero]))) | ((with_reducible show wpAny _ _ (call (Value.ref _) _) _ _ _); k_dflt (refine' call_cls ?ks1_13 ?ks2_13 ?ks3_13 ?ks4_13 ?ks5_13 ?ks6_13 ?_; (case ks1_13 => k_asm); (case ks2_13 => k_asm); (case ks3_13 => k_asm); (case ks4_13 => k_is); (case ks5_13 => k_is); (case ks6_13 => k_is); k_whole; intro xq' dq' hq' Fq' Nq' lq1' lq2'; (try k_lt lq1'); (try k_lt2 lq2'); (try k_sweep); (refine' code_def ?k1_14 ?k2_14 ?k3_14 ?k4_14 ?k5_14 ?kA_14 ?kF_14 ?kK_14 ?k6_14 ?k7_14 ?k8_14 ?k9_14 ?kB_14 ?_ ?c2_14 ?c3_14 ?c4_14 ?c5_14; (case kA_14 => exact rfl); (case kF_14 => exact rfl); (case kK_14 => first | exact rfl | (first | with_reducible assumption | assumption)); (case k1_14 => k_asm); (case k2_14 => k_asm); (case k3_14 => k_asm); (case k4_14 => k_asm); (case k5_14 => k_asm); (case k6_14 => k_is); (case k7_14 => k_is); (case k8_14 => ktr_room); (case k9_14 => first | exact BindsTo.of_eq rfl | exact binds_K (by k_in) rfl (by k_is) rfl rfl rfl); (case c5_14 => decide); (case kB_14 => exact locs rfl); (case c2_14 => exact rfl); (case c3_14 => exact rfl); (case c4_14 => exact rfl); k_whole; intro g' L' h' FG' F' N' B' X' T'; (try dsimp only); (try k_lift B'); (try k_fold)))))) | (k_unfold; (try dsimp only)) | (k_end; wrow_close) | walk1 | (dsimp only; walk1) | (leave1; (try dsimp only))))
    have hV := quot_in hb0 ho0 ho1 eD hP0 hP1
    refine Blk.into ?_
    k_dflt (refine' look_call (ps := ps) (vs := vs) (c := c) ?kc ?kz ?kd2 ?H ?hl ?hp ?_)
    case H => exact ⟨by k_asm, by k_asm, by k_asm, by k_asm, by k_asm, by first | exact rfl | (first | with_reducible assumption | assumption), by (simp only [depth_deeper, depth_in1, ktrTop]; omega), by (simp only [units_deeper, units_in1, ktrTop]; omega)⟩
    case kc => exact ⟨hc0, hc1⟩
    case kz => exact fun q hq => piece_bits hb0 hb1 hz0 hz1 (hps q hq).1 (hps q hq).2.1 hV.1 hV.2
    case kd2 => exact fun q hq => (hps q hq).2.2
    case hl => k_mem
    case hp => exact piecesAre_mono hp fun q hq => .tail _ (.tail _ (.tail _ (.tail _ hq)))
    intro t9 h9 tk9 F9 N9
    (repeat' (first | ((with_reducible refine Blk.into ?_); (first | (((with_reducible show wpAny _ _ (call (Value.builtin "len") [Value.ref _]) _ _ _); (refine my_lenL (by k_asm) (by k_mem) (by (simp only [Array.size_push, List.size_toArray, List.length_cons, List.length_nil]; omega)) ?_); (try simp only [Array.size_push]); intro _ _)) | (with_reducible ((show wpAny _ _ (subscriptTail _ (Expr.Slice _ _ none _) (Value.bytes _ _) (Value.ref _)) _ _ _); (with_reducible rename Fr _ _ _ _ => F'); (with_reducible rename News _ _ _ _ => N'); (refine my_slice (s := ⟨_, _, _, _, _⟩) F' N' (by constructor) (by constructor) (by intro _ e; cases e <;> omega) (by intro _ e; cases e <;> omega) (by first | omega | (rw [lookL_length]; omega)) ?_); (try clear F' N'); intro _ _ _ F' N'; (try simp only [Option.elim, List.drop_zero, Nat.sub_zero, Int.toNat_zero]))) | ((with_reducible show wpAny _ _ (call (Value.ref _) _) _ _ _); k_dflt (refine' call_cls ?ks1_15 ?ks2_15 ?ks3_15 ?ks4_15 ?ks5_15 ?ks6_15 ?_; (case ks1_15 => k_asm); (case ks2_15 => k_asm); (case ks3_15 => k_asm); (case ks4_15 => k_is); (case ks5_15 => k_is); (case ks6_15 => k_is); k_whole; intro xq' dq' hq' Fq' Nq' lq1' lq2'; (try k_lt lq1'); (try k_lt2 lq2'); (try k_sweep); (refine' code_def ?k1_16 ?k2_16 ?k3_16 ?k4_16 ?k5_16 ?kA_16 ?kF_16 ?kK_16 ?k6_16 ?k7_16 ?k8_16 ?k9_16 ?kB_16 ?_ ?c2_16 ?c3_16 ?c4_16 ?c5_16; (case kA_16 => exact rfl); (case kF_16 => exact rfl); (case kK_16 => first | exact rfl | (first | with_reducible assumption | assumption)); (case k1_16 => k_asm); (case k2_16 => k_asm); (case k3_16 => k_asm); (case k4_16 => k_asm); (case k5_16 => k_asm); (case k6_16 => k_is); (case k7_16 => k_is); (case k8_16 => ktr_room); (case k9_16 => first | exact BindsTo.of_eq rfl | exact binds_K (by k_in) rfl (by k_is) rfl rfl rfl); (case c5_16 => decide); (case kB_16 => exact locs rfl); (case c2_16 => exact rfl); (case c3_16 => exact rfl); (case c4_16 => exact rfl); k_whole; intro g' L' h' FG' F' N' B' X' T'; (try dsimp only); (try k_lift B'); (try k_fold)))))) | (k_unfold; (try dsimp only)) | (k_end; wrow_close) | walk1 | (dsimp only; walk1) | (leave1; (try dsimp only))))
    · rw [drop_one]
      have hc : (items.size : Int) + 1 = cut := by have : ((items.size + 1 : Nat) : Int) = cut := by (first | with_reducible assumption | assumption)
                                                   omega
      simp only [if_pos hc] at hret
      rename _ < _ ∧ _ < _ ∧ _ => lz
      exact hret _ _ _ _ _ _ _ _ _ _ eD.symm hP0 hP1 (allLt_mem lz.2.2.2) lz.2.1 lz.2.2.1 (by k_asm) (by first | with_reducible assumption | ((rename News _ _ _ _ => dN); first | exact nd1 dN | exact nd1 (nd1 dN) | exact nd1 (nd1 (nd1 dN)) | exact nd1 (nd1 (nd1 (nd1 dN)))))
    · have hc : ¬ (items.size : Int) + 1 = cut := by have : ((items.size + 1 : Nat) : Int) ≠ cut := by (first | with_reducible assumption | assumption)
                                                     omega
      simp only [if_neg hc] at hret
      rename _ < _ ∧ _ < _ ∧ _ => lz
      exact hret _ _ _ _ _ _ _ _ _ _ eD.symm hP0 hP1 (allLt_mem lz.2.2.2) lz.2.1 lz.2.2.1 (by k_asm) (by first | with_reducible assumption | ((rename News _ _ _ _ => dN); first | exact nd1 dN | exact nd1 (nd1 dN) | exact nd1 (nd1 (nd1 dN)) | exact nd1 (nd1 (nd1 (nd1 dN)))))
  · intro v A h₀ L m rest s pl Q E F X N hS hq
    have s4 := hS _ (.tail _ (.tail _ (.tail _ (.tail _ (.head _)))))
    clear hS
    dsimp only at N
    (repeat' (first | ((with_reducible refine Blk.into ?_); (first | (((with_reducible show wpAny _ _ (call (Value.builtin "len") [Value.ref _]) _ _ _); (refine my_lenL (by k_asm) (by k_mem) (by (simp only [Array.size_push, List.size_toArray, List.length_cons, List.length_nil]; omega)) ?_); (try simp only [Array.size_push]); intro _ _)) | (with_reducible ((show wpAny _ _ (subscriptTail _ (Expr.Slice _ _ none _) (Value.bytes _ _) (Value.ref _)) _ _ _); (with_reducible rename Fr _ _ _ _ => F'); (with_reducible rename News _ _ _ _ => N'); (refine my_slice (s := ⟨_, _, _, _, _⟩) F' N' (by constructor) (by constructor) (by intro _ e; cases e <;> omega) (by intro _ e; cases e <;> omega) (by first | omega | (rw [lookL_length]; omega)) ?_); (try clear F' N'); intro _ _ _ F' N'; (try simp only [Option.elim, List.drop_zero, Nat.sub_zero, Int.toNat_zero]))) | ((with_reducible show wpAny _ _ (call (Value.ref _) _) _ _ _); k_dflt (refine' call_cls ?ks1_17 ?ks2_17 ?ks3_17 ?ks4_17 ?ks5_17 ?ks6_17 ?_; (case ks1_17 => k_asm); (case ks2_17 => k_asm); (case ks3_17 => k_asm); (case ks4_17 => k_is); (case ks5_17 => k_is); (case ks6_17 => k_is); k_whole; intro xq' dq' hq' Fq' Nq' lq1' lq2'; (try k_lt lq1'); (try k_lt2 lq2'); (try k_sweep); (refine' code_def ?k1_18 ?k2_18 ?k3_18 ?k4_18 ?k5_18 ?kA_18 ?kF_18 ?kK_18 ?k6_18 ?k7_18 ?k8_18 ?k9_18 ?kB_18 ?_ ?c2_18 ?c3_18 ?c4_18 ?c5_18; (case kA_18 => exact rfl); (case kF_18 => exact rfl); (case kK_18 => first | exact rfl | (first | with_reducible assumption | assumption)); (case k1_18 => k_asm); (case k2_18 => k_asm); (case k3_18 => k_asm); (case k4_18 => k_asm); (case k5_18 => k_asm); (case k6_18 => k_is); (case k7_18 => k_is); (case k8_18 => ktr_room); (case k9_18 => first | exact BindsTo.of_eq rfl | exact binds_K (by k_in) rfl (by k_is) rfl rfl rfl); (case c5_18 => decide); (case kB_18 => exact locs rfl); (case c2_18 => exact rfl); (case c3_18 => exact rfl); (case c4_18 => exact rfl); k_whole; intro g' L' h' FG' F' N' B' X' T'; (try dsimp only); (try k_lift B'); (try k_fold)))))) | (k_unfold; (try dsimp only)) | (k_end; wrow_close) | walk1 | (dsimp only; walk1) | (leave1; (try dsimp only))))
    exact hq _
  · intro v A h₀ L m rest s pl Q E F X N hS hq
    have s4 := hS _ (.tail _ (.tail _ (.tail _ (.tail _ (.head _)))))
    clear hS
    dsimp only at N
    (repeat' (first | ((with_reducible refine Blk.into ?_); (first | (((with_reducible show wpAny _ _ (call (Value.builtin "len") [Value.ref _]) _ _ _); (refine my_lenL (by k_asm) (by k_mem) (by (simp only [Array.size_push, List.size_toArray, List.length_cons, List.length_nil]; omega)) ?_); (try simp only [Array.size_push]); intro _ _)) | (with_reducible ((show wpAny _ _ (subscriptTail _ (Expr.Slice _ _ none _) (Value.bytes _ _) (Value.ref _)) _ _ _); (with_reducible rename Fr _ _ _ _ => F'); (with_reducible rename News _ _ _ _ => N'); (refine my_slice (s := ⟨_, _, _, _, _⟩) F' N' (by constructor) (by constructor) (by intro _ e; cases e <;> omega) (by intro _ e; cases e <;> omega) (by first | omega | (rw [lookL_length]; omega)) ?_); (try clear F' N'); intro _ _ _ F' N'; (try simp only [Option.elim, List.drop_zero, Nat.sub_zero, Int.toNat_zero]))) | ((with_reducible show wpAny _ _ (call (Value.ref _) _) _ _ _); k_dflt (refine' call_cls ?ks1_19 ?ks2_19 ?ks3_19 ?ks4_19 ?ks5_19 ?ks6_19 ?_; (case ks1_19 => k_asm); (case ks2_19 => k_asm); (case ks3_19 => k_asm); (case ks4_19 => k_is); (case ks5_19 => k_is); (case ks6_19 => k_is); k_whole; intro xq' dq' hq' Fq' Nq' lq1' lq2'; (try k_lt lq1'); (try k_lt2 lq2'); (try k_sweep); (refine' code_def ?k1_20 ?k2_20 ?k3_20 ?k4_20 ?k5_20 ?kA_20 ?kF_20 ?kK_20 ?k6_20 ?k7_20 ?k8_20 ?k9_20 ?kB_20 ?_ ?c2_20 ?c3_20 ?c4_20 ?c5_20; (case kA_20 => exact rfl); (case kF_20 => exact rfl); (case kK_20 => first | exact rfl | (first | with_reducible assumption | assumption)); (case k1_20 => k_asm); (case k2_20 => k_asm); (case k3_20 => k_asm); (case k4_20 => k_asm); (case k5_20 => k_asm); (case k6_20 => k_is); (case k7_20 => k_is); (case k8_20 => ktr_room); (case k9_20 => first | exact BindsTo.of_eq rfl | exact binds_K (by k_in) rfl (by k_is) rfl rfl rfl); (case c5_20 => decide); (case kB_20 => exact locs rfl); (case c2_20 => exact rfl); (case c3_20 => exact rfl); (case c4_20 => exact rfl); k_whole; intro g' L' h' FG' F' N' B' X' T'; (try dsimp only); (try k_lift B'); (try k_fold)))))) | (k_unfold; (try dsimp only)) | (k_end; wrow_close) | walk1 | (dsimp only; walk1) | (leave1; (try dsimp only))))
    exact hq _
  · intro h₀ h L news N hS
    exact FnAt.of N (hS _ (.tail _ (.tail _ (.head _))))
  · intro h₀ h L news N hS
    exact FnAt.of N (hS _ (.head _))
theorem tape_hit {old : List (Addr × Obj)} {size bits cut : Int} {t1 t2 t3 : Tok} {la qa : Addr} {vs : Array Value} {c : Nat} {ps : List (Int × Int × List UInt8)} {c1 c2 : Addr}
    (hb0 : 0 < bits) (hb1 : bits ≤ 8000) (hz0 : 2 ^ (bits.toNat - 1) ≤ size) (hz1 : size < 2 ^ bits.toNat) (hps : ∀ q ∈ ps, 0 ≤ q.1 ∧ q.1 < 2 ^ bits.toNat ∧ q.2.2.length ≤ 100)
    (C : CodeHd base 157 153) (hn153 : ∀ p ∈ news, p.1 ≠ 153)
    (H : Here w p loose mean mg mb 10 dp un cs outer A₀ base h₀ L m ((153, tabObj (hitTb c1 c2)) :: news) s.heap) (hold : ∀ q ∈ old, q ∈ news) (hh : TabHit old c1 c2)
    (hret : ∀ (k1 k2 : Addr) (x dx fs fr : Addr) (td : Value → Obj) (S : List (Addr × Obj)) h' tk' t0,
      Fr h₀ L h' m → News h₀ L h' ((153, tabObj (hitTb k1 k2)) :: (dx, td (.int 0 t0)) :: (S ++ news)) → (∀ q ∈ S, @Ne Nat q.1 dx ∧ (q ∈ old ∨ ∀ r ∈ news, @Ne Nat q.1 r.1)) → (∀ r ∈ news, @Ne Nat r.1 dx) → @Ne Nat 153 dx → TabHit S k1 k2 →
      SeekK prog w p loose mean mg mb dx fs td S → ReadK prog w p loose mean mg mb dx qa fr td S size bits cut la vs c ps → GetK prog w x dx fs "seek" td S → GetK prog w x dx fr "read" td S → FnK fs S → FnK fr S → Q (.ref x) { s with heap := h', toks := tk' }) :
    wpAny (model prog w) (ktrTop dp un gd cn cs L ad ccd cl outer) (call (.ref 158) [.ref la, .int size t1, .int bits t2, .int cut t3, .ref qa]) Q E s := by
  obtain ⟨B, F, X, N, T, hk, hdp, hu⟩ := H
  obtain ⟨oc1, oc2, v1, v2, tt1, tt2, mm1, mm2, g1, g2, g3, g4⟩ := hh
  refine wpAny_call ?_
  k_dflt ((refine' code_defC ?k1_21 ?k2_21 ?k3_21 ?k4_21 ?k5_21 ?kA_21 ?kF_21 ?kK_21 ?k6_21 ?k7_21 ?k8_21 ?k9_21 ?kB_21 ?kD_21 ?_ ?c2_21 ?c3_21 ?c4_21; (case kA_21 => exact rfl); (case kF_21 => exact rfl); (case kK_21 => (first | with_reducible assumption | assumption)); (case k1_21 => k_asm); (case k2_21 => k_asm); (case k3_21 => k_asm); (case k4_21 => k_asm); (case k5_21 => k_asm); (case k6_21 => k_is); (case k7_21 => k_is); (case k8_21 => ktr_room); (case k9_21 => exact BindsTo.of_eq rfl); (case kB_21 => exact rfl); (case kD_21 => decide +kernel); (case c2_21 => exact rfl); (case c3_21 => exact rfl); (case c4_21 => exact rfl); k_whole; intro g' L' h' tk' cells' FG' F' N' Y' B' X' T' lc9'; (try k_lt lc9'); (try simp only [List.cons_append, List.nil_append] at N'); (try dsimp only); (try k_lift B'); (try k_fold)))
  rename CellsAre _ _ _ => Y
  obtain ⟨o1, o2, o3, o4, o5, o6, hE, d1, d2, d3, d4, d5, d6⟩ := cells_six Y
  subst hE
  clear Y
  rename _ ∧ AllLt _ _ => l1
  have hL := l1.2
  rename Below _ _ _ _ => B9
  have hC := CodeHd.keeps C (Below.stays B9)
  rename News _ _ _ _ => N'
  simp only [List.cons_append, List.nil_append] at N'
  (repeat' (first | ((with_reducible refine Blk.into ?_); (first | (((with_reducible show wpAny _ _ (call (Value.builtin "len") [Value.ref _]) _ _ _); (refine my_lenL (by k_asm) (by k_mem) (by (simp only [Array.size_push, List.size_toArray, List.length_cons, List.length_nil]; omega)) ?_); (try simp only [Array.size_push]); intro _ _)) | (with_reducible ((show wpAny _ _ (subscriptTail _ (Expr.Slice _ _ none _) (Value.bytes _ _) (Value.ref _)) _ _ _); (with_reducible rename Fr _ _ _ _ => F'); (with_reducible rename News _ _ _ _ => N'); (refine my_slice (s := ⟨_, _, _, _, _⟩) F' N' (by constructor) (by constructor) (by intro _ e; cases e <;> omega) (by intro _ e; cases e <;> omega) (by first | omega | (rw [lookL_length]; omega)) ?_); (try clear F' N'); intro _ _ _ F' N'; (try simp only [Option.elim, List.drop_zero, Nat.sub_zero, Int.toNat_zero]))) | ((with_reducible show wpAny _ _ (call (Value.ref _) _) _ _ _); k_dflt (refine' call_cls ?ks1_22 ?ks2_22 ?ks3_22 ?ks4_22 ?ks5_22 ?ks6_22 ?_; (case ks1_22 => k_asm); (case ks2_22 => k_asm); (case ks3_22 => k_asm); (case ks4_22 => k_is); (case ks5_22 => k_is); (case ks6_22 => k_is); k_whole; intro xq' dq' hq' Fq' Nq' lq1' lq2'; (try k_lt lq1'); (try k_lt2 lq2'); (try k_sweep); (refine' code_def ?k1_23 ?k2_23 ?k3_23 ?k4_23 ?k5_23 ?kA_23 ?kF_23 ?kK_23 ?k6_23 ?k7_23 ?k8_23 ?k9_23 ?kB_23 ?_ ?c2_23 ?c3_23 ?c4_23 ?c5_23; (case kA_23 => exact rfl); (case kF_23 => exact rfl); (case kK_23 => first | exact rfl | (first | with_reducible assumption | assumption)); (case k1_23 => k_asm); (case k2_23 => k_asm); (case k3_23 => k_asm); (case k4_23 => k_asm); (case k5_23 => k_asm); (case k6_23 => k_is); (case k7_23 => k_is); (case k8_23 => ktr_room); (case k9_23 => first | exact BindsTo.of_eq rfl | exact binds_K (by k_in) rfl (by k_is) rfl rfl rfl); (case c5_23 => decide); (case kB_23 => exact locs rfl); (case c2_23 => exact rfl); (case c3_23 => exact rfl); (case c4_23 => exact rfl); k_whole; intro g' L' h' FG' F' N' B' X' T'; (try dsimp only); (try k_lift B'); (try k_fold)))))) | (k_unfold; (try dsimp only)) | (k_end; wrow_close) | walk1 | (dsimp only; walk1) | (leave1; (try dsimp only))))
  rename Fr _ _ _ _ => FF
  rename News _ _ _ _ => NN
  have NN := hit_led NN (hold _ mm1) (hold _ mm2)
  have hc1 := ltN (allLt_mem hL _ (hold _ mm1))
  have hc2 := ltN (allLt_mem hL _ (hold _ mm2))
  dsimp only at hc1 hc2
  refine tape_fin FF NN hret ?_ ?_ ?_ ?_ (by ((repeat (refine List.forall_mem_cons.mpr ⟨⟨by first | exact .inr (by ((try dsimp only); first | with_reducible assumption | exact Cm.lp1 (by with_reducible assumption) | exact Cm.lp2 (by with_reducible assumption) | exact Cm.lp3 (by with_reducible assumption) | exact Cm.lp4 (by with_reducible assumption) | exact Cm.lp5 (by with_reducible assumption) | exact Cm.lp6 (by with_reducible assumption) | exact Cm.lp7 (by with_reducible assumption) | omega)) | exact .inl (by (first | with_reducible assumption | assumption)), by ((try dsimp only); first | with_reducible assumption | (symm; with_reducible assumption) | exact Cm.nl1 (by with_reducible assumption) | exact Cm.ng1 (by with_reducible assumption) | exact Cm.nl2 (by with_reducible assumption) | exact Cm.ng2 (by with_reducible assumption) | exact Cm.nl3 (by with_reducible assumption) | exact Cm.ng3 (by with_reducible assumption) | exact Cm.nl4 (by with_reducible assumption) | exact Cm.ng4 (by with_reducible assumption) | exact Cm.nl5 (by with_reducible assumption) | exact Cm.ng5 (by with_reducible assumption) | exact Cm.nl6 (by with_reducible assumption) | exact Cm.ng6 (by with_reducible assumption) | exact Cm.nl7 (by with_reducible assumption) | exact Cm.ng7 (by with_reducible assumption) | exact Cm.nn1 (by with_reducible assumption) | exact Cm.nm1 (by with_reducible assumption) | exact Cm.nn2 (by with_reducible assumption) | exact Cm.nm2 (by with_reducible assumption) | exact Cm.nn3 (by with_reducible assumption) | exact Cm.nm3 (by with_reducible assumption) | exact Cm.nn4 (by with_reducible assumption) | exact Cm.nm4 (by with_reducible assumption) | exact Cm.nn5 (by with_reducible assumption) | exact Cm.nm5 (by with_reducible assumption) | omega)⟩, ?_⟩)); exact List.forall_mem_nil _)) (by omega) l1.1 hL (by rfl) (by (first | with_reducible assumption | assumption)) (by (first | with_reducible assumption | assumption)) (by (first | with_reducible assumption | assumption)) (by (first | with_reducible assumption | assumption)) (by rfl) (by rfl) ?_ ?_
  · intro o to v dp un gd cn cs ad ccd cl outer A₀ base h₀ L m rest s Q E H hS hd hret
    obtain ⟨B, F, X, N, T, hk, hdp, hu⟩ := H
    have s0 := hS _ (.head _)
    have s1 := hS _ (.tail _ (.head _))
    have s2 := hS _ (.tail _ (.tail _ (.head _)))
    have s3 := hS _ (.tail _ (.tail _ (.tail _ (.head _))))
    have s4 := hS _ (.tail _ (.tail _ (.tail _ (.tail _ (.head _)))))
    have s5 := hS _ (.tail _ (.tail _ (.tail _ (.tail _ (.tail _ (.head _))))))
    clear hS
    dsimp only at N hret
    refine wpAny_call ?_
    k_dflt ((refine' code_nest ?k1_24 ?k2_24 ?k3_24 ?k4_24 ?k5_24 ?kA_24 ?kF_24 ?kK_24 ?k6_24 ?k7_24 ?k8_24 ?k9_24 ?kB_24 ?_ ?c2_24 ?c3_24 ?c4_24 ?c5_24; (case kA_24 => exact rfl); (case kF_24 => exact rfl); (case kK_24 => first | exact rfl | (first | with_reducible assumption | assumption)); (case k1_24 => k_asm); (case k2_24 => k_asm); (case k3_24 => k_asm); (case k4_24 => k_asm); (case k5_24 => k_asm); (case k6_24 => k_mem); (case k7_24 => exact codeRec_news (by k_asm) (by k_mem) (by (first | with_reducible assumption | assumption)) (by (first | with_reducible assumption | assumption))); (case k8_24 => ktr_room); (case k9_24 => exact BindsTo.of_eq rfl); (case c5_24 => decide); (case kB_24 => exact locs rfl); (case c2_24 => exact rfl); (case c3_24 => exact rfl); (case c4_24 => exact rfl); k_whole; intro g' L' h' FG' F' N' B' X' T'; (try dsimp only); (try k_lift B'); (try k_fold)))
    (repeat' (first | ((with_reducible refine Blk.into ?_); (first | (((with_reducible show wpAny _ _ (call (Value.builtin "len") [Value.ref _]) _ _ _); (refine my_lenL (by k_asm) (by k_mem) (by (simp only [Array.size_push, List.size_toArray, List.length_cons, List.length_nil]; omega)) ?_); (try simp only [Array.size_push]); intro _ _)) | (with_reducible ((show wpAny _ _ (subscriptTail _ (Expr.Slice _ _ none _) (Value.bytes _ _) (Value.ref _)) _ _ _); (with_reducible rename Fr _ _ _ _ => F'); (with_reducible rename News _ _ _ _ => N'); (refine my_slice (s := ⟨_, _, _, _, _⟩) F' N' (by constructor) (by constructor) (by intro _ e; cases e <;> omega) (by intro _ e; cases e <;> omega) (by first | omega | (rw [lookL_length]; omega)) ?_); (try clear F' N'); intro _ _ _ F' N'; (try simp only [Option.elim, List.drop_zero, Nat.sub_zero, Int.toNat_zero]))) | ((with_reducible show wpAny _ _ (call (Value.ref _) _) _ _ _); k_dflt (refine' call_cls ?ks1_25 ?ks2_25 ?ks3_25 ?ks4_25 ?ks5_25 ?ks6_25 ?_; (case ks1_25 => k_asm); (case ks2_25 => k_asm); (case ks3_25 => k_asm); (case ks4_25 => k_is); (case ks5_25 => k_is); (case ks6_25 => k_is); k_whole; intro xq' dq' hq' Fq' Nq' lq1' lq2'; (try k_lt lq1'); (try k_lt2 lq2'); (try k_sweep); (refine' code_def ?k1_26 ?k2_26 ?k3_26 ?k4_26 ?k5_26 ?kA_26 ?kF_26 ?kK_26 ?k6_26 ?k7_26 ?k8_26 ?k9_26 ?kB_26 ?_ ?c2_26 ?c3_26 ?c4_26 ?c5_26; (case kA_26 => exact rfl); (case kF_26 => exact rfl); (case kK_26 => first | exact rfl | (first | with_reducible assumption | assumption)); (case k1_26 => k_asm); (case k2_26 => k_asm); (case k3_26 => k_asm); (case k4_26 => k_asm); (case k5_26 => k_asm); (case k6_26 => k_is); (case k7_26 => k_is); (case k8_26 => ktr_room); (case k9_26 => first | exact BindsTo.of_eq rfl | exact binds_K (by k_in) rfl (by k_is) rfl rfl rfl); (case c5_26 => decide); (case kB_26 => exact locs rfl); (case c2_26 => exact rfl); (case c3_26 => exact rfl); (case c4_26 => exact rfl); k_whole; intro g' L' h' FG' F' N' B' X' T'; (try dsimp only); (try k_lift B'); (try k_fold)))))) | (k_unfold; (try dsimp only)) | (k_end; wrow_close) | walk1 | (dsimp only; walk1) | (leave1; (try dsimp only))))
    exact hret _ _ (by k_asm) (by k_asm)
  · intro o cnt to tc items ep dp un gd cn cs ad ccd cl outer A₀ base h₀ L m rest s Q E H hS hd hdq ho0 ho1 hc0 hc1 hi hl hp hret
    obtain ⟨B, F, X, N, T, hk, hdp, hu⟩ := H
    have s0 := hS _ (.head _)
    have s1 := hS _ (.tail _ (.head _))
    have s2 := hS _ (.tail _ (.tail _ (.head _)))
    have s3 := hS _ (.tail _ (.tail _ (.tail _ (.head _))))
    have s4 := hS _ (.tail _ (.tail _ (.tail _ (.tail _ (.head _)))))
    have s5 := hS _ (.tail _ (.tail _ (.tail _ (.tail _ (.tail _ (.head _))))))
    have s6 := hS _ (.tail _ (.tail _ (.tail _ (.tail _ (.tail _ (.tail _ (.head _)))))))
    have s7 := hS _ (.tail _ (.tail _ (.tail _ (.tail _ (.tail _ (.tail _ (.tail _ (.head _))))))))
    have s8 := hS _ (.tail _ (.tail _ (.tail _ (.tail _ (.tail _ (.tail _ (.tail _ (.tail _ (.head _)))))))))
    have s9 := hS _ (.tail _ (.tail _ (.tail _ (.tail _ (.tail _ (.tail _ (.tail _ (.tail _ (.tail _ (.head _))))))))))
    have s10 := hS _ (.tail _ (.tail _ (.tail _ (.tail _ (.tail _ (.tail _ (.tail _ (.tail _ (.tail _ (.tail _ (.head _)))))))))))
    clear hS
    dsimp only at N hret
    have hd1 : ∀ q ∈ rest, q.1 ≠ _ := fun q hq => (hd q hq).1
    have hd2 : ∀ q ∈ rest, q.1 ≠ qa := fun q hq => (hd q hq).2
    have hdq' := neN hdq
    refine wpAny_call ?_
    k_dflt ((refine' code_nest ?k1_27 ?k2_27 ?k3_27 ?k4_27 ?k5_27 ?kA_27 ?kF_27 ?kK_27 ?k6_27 ?k7_27 ?k8_27 ?k9_27 ?kB_27 ?_ ?c2_27 ?c3_27 ?c4_27 ?c5_27; (case kA_27 => exact rfl); (case kF_27 => exact rfl); (case kK_27 => first | exact rfl | (first | with_reducible assumption | assumption)); (case k1_27 => k_asm); (case k2_27 => k_asm); (case k3_27 => k_asm); (case k4_27 => k_asm); (case k5_27 => k_asm); (case k6_27 => k_mem); (case k7_27 => exact codeRec_news (by k_asm) (by k_mem) (by (first | with_reducible assumption | assumption)) (by (first | with_reducible assumption | assumption))); (case k8_27 => ktr_room); (case k9_27 => exact BindsTo.of_eq rfl); (case c5_27 => decide); (case kB_27 => exact locs rfl); (case c2_27 => exact rfl); (case c3_27 => exact rfl); (case c4_27 => exact rfl); k_whole; intro g' L' h' FG' F' N' B' X' T'; (try dsimp only); (try k_lift B'); (try k_fold)))
    (repeat' (first | ((with_reducible refine Blk.into ?_); (first | (((with_reducible show wpAny _ _ (call (Value.builtin "len") [Value.ref _]) _ _ _); (refine my_lenL (by k_asm) (by k_mem) (by (simp only [Array.size_push, List.size_toArray, List.length_cons, List.length_nil]; omega)) ?_); (try simp only [Array.size_push]); intro _ _)) | (with_reducible ((show wpAny _ _ (subscriptTail _ (Expr.Slice _ _ none _) (Value.bytes _ _) (Value.ref _)) _ _ _); (with_reducible rename Fr _ _ _ _ => F'); (with_reducible rename News _ _ _ _ => N'); (refine my_slice (s := ⟨_, _, _, _, _⟩) F' N' (by constructor) (by constructor) (by intro _ e; cases e <;> omega) (by intro _ e; cases e <;> omega) (by first | omega | (rw [lookL_length]; omega)) ?_); (try clear F' N'); intro _ _ _ F' N'; (try simp only [Option.elim, List.drop_zero, Nat.sub_zero, Int.toNat_zero]))) | ((with_reducible show wpAny _ _ (call (Value.ref _) _) _ _ _); k_dflt (refine' call_cls ?ks1_28 ?ks2_28 ?ks3_28 ?ks4_28 ?ks5_28 ?ks6_28 ?_; (case ks1_28 => k_asm); (case ks2_28 => k_asm); (case ks3_28 => k_asm); (case ks4_28 => k_is); (case ks5_28 => k_is); (case ks6_28 => k_is); k_whole; intro xq' dq' hq' Fq' Nq' lq1' lq2'; (try k_lt lq1'); (try k_lt2 lq2'); (try k_sweep); (refine' code_def ?k1_29 ?k2_29 ?k3_29 ?k4_29 ?k5_29 ?kA_29 ?kF_29 ?kK_29 ?k6_29 ?k7_29 ?k8_29 ?k9_29 ?kB_29 ?_ ?c2_29 ?c3_29 ?c4_29 ?c5_29; (case kA_29 => exact rfl); (case kF_29 => exact rfl); (case kK_29 => first | exact rfl | (first | with_reducible assumption | assumption)); (case k1_29 => k_asm); (case k2_29 => k_asm); (case k3_29 => k_asm); (case k4_29 => k_asm); (case k5_29 => k_asm); (case k6_29 => k_is); (case k7_29 => k_is); (case k8_29 => ktr_room); (case k9_29 => first | exact BindsTo.of_eq rfl | exact binds_K (by k_in) rfl (by k_is) rfl rfl rfl); (case c5_29 => decide); (case kB_29 => exact locs rfl); (case c2_29 => exact rfl); (case c3_29 => exact rfl); (case c4_29 => exact rfl); k_whole; intro g' L' h' FG' F' N' B' X' T'; (try dsimp only); (try k_lift B'); (try k_fold)))))) | (k_unfold; (try dsimp only)) | (k_end; wrow_close) | walk1 | (dsimp only; walk1) | (leave1; (try dsimp only))))
    refine Blk.into ?_
    k_dflt (refine' use21 (div21_all 1) ?kn ?ka ?k1 ?k2 ?k3 ?k4 ?k5 ?kK ?kd ?ku ?_)
    case k1 => k_asm
    case k2 => k_asm
    case k3 => k_asm
    case k4 => k_asm
    case k5 => k_asm
    case kK => exact rfl
    case kd => simp only [depth_deeper]; omega
    case ku => simp only [units_deeper]; omega
    case kn => omega
    case ka => exact ⟨ho0, hz0, hz1, ho1⟩
    intro V P D' tV tP cD hD tkD eD hP0 hP1 F1 N1 l1
    replace l1 := allLt_of l1
    simp only [AllLt] at l1
    (repeat' (first | ((with_reducible refine Blk.into ?_); (first | (((with_reducible show wpAny _ _ (call (Value.builtin "len") [Value.ref _]) _ _ _); (refine my_lenL (by k_asm) (by k_mem) (by (simp only [Array.size_push, List.size_toArray, List.length_cons, List.length_nil]; omega)) ?_); (try simp only [Array.size_push]); intro _ _)) | (with_reducible ((show wpAny _ _ (subscriptTail _ (Expr.Slice _ _ none _) (Value.bytes _ _) (Value.ref _)) _ _ _); (with_reducible rename Fr _ _ _ _ => F'); (with_reducible rename News _ _ _ _ => N'); (refine my_slice (s := ⟨_, _, _, _, _⟩) F' N' (by constructor) (by constructor) (by intro _ e; cases e <;> omega) (by intro _ e; cases e <;> omega) (by first | omega | (rw [lookL_length]; omega)) ?_); (try clear F' N'); intro _ _ _ F' N'; (try simp only [Option.elim, List.drop_zero, Nat.sub_zero, Int.toNat_zero]))) | ((with_reducible show wpAny _ _ (call (Value.ref _) _) _ _ _); k_dflt (refine' call_cls ?ks1_30 ?ks2_30 ?ks3_30 ?ks4_30 ?ks5_30 ?ks6_30 ?_; (case ks1_30 => k_asm); (case ks2_30 => k_asm); (case ks3_30 => k_asm); (case ks4_30 => k_is); (case ks5_30 => k_is); (case ks6_30 => k_is); k_whole; intro xq' dq' hq' Fq' Nq' lq1' lq2'; (try k_lt lq1'); (try k_lt2 lq2'); (try k_sweep); (refine' code_def ?k1_31 ?k2_31 ?k3_31 ?k4_31 ?k5_31 ?kA_31 ?kF_31 ?kK_31 ?k6_31 ?k7_31 ?k8_31 ?k9_31 ?kB_31 ?_ ?c2_31 ?c3_31 ?c4_31 ?c5_31; (case kA_31 => exact rfl); (case kF_31 => exact rfl); (case kK_31 => first | exact rfl | (first | with_reducible assumption | assumption)); (case k1_31 => k_asm); (case k2_31 => k_asm); (case k3_31 => k_asm); (case k4_31 => k_asm); (case k5_31 => k_asm); (case k6_31 => k_is); (case k7_31 => k_is); (case k8_31 => ktr_room); (case k9_31 => first | exact BindsTo.of_eq rfl | exact binds_K (by k_in) rfl (by k_is) rfl rfl rfl); (case c5_31 => decide); (case kB_31 => exact locs rfl); (case c2_31 => exact rfl); (case c3_31 => exact rfl); (case c4_31 => exact rfl); k_whole; intro g' L' h' FG' F' N' B' X' T'; (try dsimp only); (try k_lift B'); (try k_fold)))))) | (k_unfold; (try dsimp only)) | (k_end; wrow_close) | walk1 | (dsimp only; walk1) | (leave1; (try dsimp only))))
    have hV := quot_in hb0 ho0 ho1 eD hP0 hP1
    refine Blk.into ?_
    k_dflt (refine' look_call (ps := ps) (vs := vs) (c := c) ?kc ?kz ?kd2 ?H ?hl ?hp ?_)
    case H => exact ⟨by k_asm, by k_asm, by k_asm, by k_asm, by k_asm, by first | exact rfl | (first | with_reducible assumption | assumption), by (simp only [depth_deeper, depth_in1, ktrTop]; omega), by (simp only [units_deeper, units_in1, ktrTop]; omega)⟩
    case kc => exact ⟨hc0, hc1⟩
    case kz => exact fun q hq => piece_bits hb0 hb1 hz0 hz1 (hps q hq).1 (hps q hq).2.1 hV.1 hV.2
    case kd2 => exact fun q hq => (hps q hq).2.2
    case hl => k_mem
    case hp => exact piecesAre_mono hp fun q hq => .tail _ (.tail _ (.tail _ (.tail _ hq)))
    intro t9 h9 tk9 F9 N9
    (repeat' (first | ((with_reducible refine Blk.into ?_); (first | (((with_reducible show wpAny _ _ (call (Value.builtin "len") [Value.ref _]) _ _ _); (refine my_lenL (by k_asm) (by k_mem) (by (simp only [Array.size_push, List.size_toArray, List.length_cons, List.length_nil]; omega)) ?_); (try simp only [Array.size_push]); intro _ _)) | (with_reducible ((show wpAny _ _ (subscriptTail _ (Expr.Slice _ _ none _) (Value.bytes _ _) (Value.ref _)) _ _ _); (with_reducible rename Fr _ _ _ _ => F'); (with_reducible rename News _ _ _ _ => N'); (refine my_slice (s := ⟨_, _, _, _, _⟩) F' N' (by constructor) (by constructor) (by intro _ e; cases e <;> omega) (by intro _ e; cases e <;> omega) (by first | omega | (rw [lookL_length]; omega)) ?_); (try clear F' N'); intro _ _ _ F' N'; (try simp only [Option.elim, List.drop_zero, Nat.sub_zero, Int.toNat_zero]))) | ((with_reducible show wpAny _ _ (call (Value.ref _) _) _ _ _); k_dflt (refine' call_cls ?ks1_32 ?ks2_32 ?ks3_32 ?ks4_32 ?ks5_32 ?ks6_32 ?_; (case ks1_32 => k_asm); (case ks2_32 => k_asm); (case ks3_32 => k_asm); (case ks4_32 => k_is); (case ks5_32 => k_is); (case ks6_32 => k_is); k_whole; intro xq' dq' hq' Fq' Nq' lq1' lq2'; (try k_lt lq1'); (try k_lt2 lq2'); (try k_sweep); (refine' code_def ?k1_33 ?k2_33 ?k3_33 ?k4_33 ?k5_33 ?kA_33 ?kF_33 ?kK_33 ?k6_33 ?k7_33 ?k8_33 ?k9_33 ?kB_33 ?_ ?c2_33 ?c3_33 ?c4_33 ?c5_33; (case kA_33 => exact rfl); (case kF_33 => exact rfl); (case kK_33 => first | exact rfl | (first | with_reducible assumption | assumption)); (case k1_33 => k_asm); (case k2_33 => k_asm); (case k3_33 => k_asm); (case k4_33 => k_asm); (case k5_33 => k_asm); (case k6_33 => k_is); (case k7_33 => k_is); (case k8_33 => ktr_room); (case k9_33 => first | exact BindsTo.of_eq rfl | exact binds_K (by k_in) rfl (by k_is) rfl rfl rfl); (case c5_33 => decide); (case kB_33 => exact locs rfl); (case c2_33 => exact rfl); (case c3_33 => exact rfl); (case c4_33 => exact rfl); k_whole; intro g' L' h' FG' F' N' B' X' T'; (try dsimp only); (try k_lift B'); (try k_fold)))))) | (k_unfold; (try dsimp only)) | (k_end; wrow_close) | walk1 | (dsimp only; walk1) | (leave1; (try dsimp only))))
    · rw [drop_one]
      have hc : (items.size : Int) + 1 = cut := by have : ((items.size + 1 : Nat) : Int) = cut := by (first | with_reducible assumption | assumption)
                                                   omega
      simp only [if_pos hc] at hret
      rename _ < _ ∧ _ < _ ∧ _ => lz
      exact hret _ _ _ _ _ _ _ _ _ _ eD.symm hP0 hP1 (allLt_mem lz.2.2.2) lz.2.1 lz.2.2.1 (by k_asm) (by first | with_reducible assumption | ((rename News _ _ _ _ => dN); first | exact nd1 dN | exact nd1 (nd1 dN) | exact nd1 (nd1 (nd1 dN)) | exact nd1 (nd1 (nd1 (nd1 dN)))))
    · have hc : ¬ (items.size : Int) + 1 = cut := by have : ((items.size + 1 : Nat) : Int) ≠ cut := by (first | with_reducible assumption | assumption)
                                                     omega
      simp only [if_neg hc] at hret
      rename _ < _ ∧ _ < _ ∧ _ => lz
      exact hret _ _ _ _ _ _ _ _ _ _ eD.symm hP0 hP1 (allLt_mem lz.2.2.2) lz.2.1 lz.2.2.1 (by k_asm) (by first | with_reducible assumption | ((rename News _ _ _ _ => dN); first | exact nd1 dN | exact nd1 (nd1 dN) | exact nd1 (nd1 (nd1 dN)) | exact nd1 (nd1 (nd1 (nd1 dN)))))
  · intro v A h₀ L m rest s pl Q E F X N hS hq
    have s4 := hS _ (.tail _ (.tail _ (.tail _ (.tail _ (.head _)))))
    clear hS
    dsimp only at N
    (repeat' (first | ((with_reducible refine Blk.into ?_); (first | (((with_reducible show wpAny _ _ (call (Value.builtin "len") [Value.ref _]) _ _ _); (refine my_lenL (by k_asm) (by k_mem) (by (simp only [Array.size_push, List.size_toArray, List.length_cons, List.length_nil]; omega)) ?_); (try simp only [Array.size_push]); intro _ _)) | (with_reducible ((show wpAny _ _ (subscriptTail _ (Expr.Slice _ _ none _) (Value.bytes _ _) (Value.ref _)) _ _ _); (with_reducible rename Fr _ _ _ _ => F'); (with_reducible rename News _ _ _ _ => N'); (refine my_slice (s := ⟨_, _, _, _, _⟩) F' N' (by constructor) (by constructor) (by intro _ e; cases e <;> omega) (by intro _ e; cases e <;> omega) (by first | omega | (rw [lookL_length]; omega)) ?_); (try clear F' N'); intro _ _ _ F' N'; (try simp only [Option.elim, List.drop_zero, Nat.sub_zero, Int.toNat_zero]))) | ((with_reducible show wpAny _ _ (call (Value.ref _) _) _ _ _); k_dflt (refine' call_cls ?ks1_34 ?ks2_34 ?ks3_34 ?ks4_34 ?ks5_34 ?ks6_34 ?_; (case ks1_34 => k_asm); (case ks2_34 => k_asm); (case ks3_34 => k_asm); (case ks4_34 => k_is); (case ks5_34 => k_is); (case ks6_34 => k_is); k_whole; intro xq' dq' hq' Fq' Nq' lq1' lq2'; (try k_lt lq1'); (try k_lt2 lq2'); (try k_sweep); (refine' code_def ?k1_35 ?k2_35 ?k3_35 ?k4_35 ?k5_35 ?kA_35 ?kF_35 ?kK_35 ?k6_35 ?k7_35 ?k8_35 ?k9_35 ?kB_35 ?_ ?c2_35 ?c3_35 ?c4_35 ?c5_35; (case kA_35 => exact rfl); (case kF_35 => exact rfl); (case kK_35 => first | exact rfl | (first | with_reducible assumption | assumption)); (case k1_35 => k_asm); (case k2_35 => k_asm); (case k3_35 => k_asm); (case k4_35 => k_asm); (case k5_35 => k_asm); (case k6_35 => k_is); (case k7_35 => k_is); (case k8_35 => ktr_room); (case k9_35 => first | exact BindsTo.of_eq rfl | exact binds_K (by k_in) rfl (by k_is) rfl rfl rfl); (case c5_35 => decide); (case kB_35 => exact locs rfl); (case c2_35 => exact rfl); (case c3_35 => exact rfl); (case c4_35 => exact rfl); k_whole; intro g' L' h' FG' F' N' B' X' T'; (try dsimp only); (try k_lift B'); (try k_fold)))))) | (k_unfold; (try dsimp only)) | (k_end; wrow_close) | walk1 | (dsimp only; walk1) | (leave1; (try dsimp only))))
    exact hq _
  · intro v A h₀ L m rest s pl Q E F X N hS hq
    have s4 := hS _ (.tail _ (.tail _ (.tail _ (.tail _ (.head _)))))
    clear hS
    dsimp only at N
    (repeat' (first | ((with_reducible refine Blk.into ?_); (first | (((with_reducible show wpAny _ _ (call (Value.builtin "len") [Value.ref _]) _ _ _); (refine my_lenL (by k_asm) (by k_mem) (by (simp only [Array.size_push, List.size_toArray, List.length_cons, List.length_nil]; omega)) ?_); (try simp only [Array.size_push]); intro _ _)) | (with_reducible ((show wpAny _ _ (subscriptTail _ (Expr.Slice _ _ none _) (Value.bytes _ _) (Value.ref _)) _ _ _); (with_reducible rename Fr _ _ _ _ => F'); (with_reducible rename News _ _ _ _ => N'); (refine my_slice (s := ⟨_, _, _, _, _⟩) F' N' (by constructor) (by constructor) (by intro _ e; cases e <;> omega) (by intro _ e; cases e <;> omega) (by first | omega | (rw [lookL_length]; omega)) ?_); (try clear F' N'); intro _ _ _ F' N'; (try simp only [Option.elim, List.drop_zero, Nat.sub_zero, Int.toNat_zero]))) | ((with_reducible show wpAny _ _ (call (Value.ref _) _) _ _ _); k_dflt (refine' call_cls ?ks1_36 ?ks2_36 ?ks3_36 ?ks4_36 ?ks5_36 ?ks6_36 ?_; (case ks1_36 => k_asm); (case ks2_36 => k_asm); (case ks3_36 => k_asm); (case ks4_36 => k_is); (case ks5_36 => k_is); (case ks6_36 => k_is); k_whole; intro xq' dq' hq' Fq' Nq' lq1' lq2'; (try k_lt lq1'); (try k_lt2 lq2'); (try k_sweep); (refine' code_def ?k1_37 ?k2_37 ?k3_37 ?k4_37 ?k5_37 ?kA_37 ?kF_37 ?kK_37 ?k6_37 ?k7_37 ?k8_37 ?k9_37 ?kB_37 ?_ ?c2_37 ?c3_37 ?c4_37 ?c5_37; (case kA_37 => exact rfl); (case kF_37 => exact rfl); (case kK_37 => first | exact rfl | (first | with_reducible assumption | assumption)); (case k1_37 => k_asm); (case k2_37 => k_asm); (case k3_37 => k_asm); (case k4_37 => k_asm); (case k5_37 => k_asm); (case k6_37 => k_is); (case k7_37 => k_is); (case k8_37 => ktr_room); (case k9_37 => first | exact BindsTo.of_eq rfl | exact binds_K (by k_in) rfl (by k_is) rfl rfl rfl); (case c5_37 => decide); (case kB_37 => exact locs rfl); (case c2_37 => exact rfl); (case c3_37 => exact rfl); (case c4_37 => exact rfl); k_whole; intro g' L' h' FG' F' N' B' X' T'; (try dsimp only); (try k_lift B'); (try k_fold)))))) | (k_unfold; (try dsimp only)) | (k_end; wrow_close) | walk1 | (dsimp only; walk1) | (leave1; (try dsimp only))))
    exact hq _
  · intro h₀ h L news N hS
    exact FnAt.of N (hS _ (.tail _ (.tail _ (.head _))))
  · intro h₀ h L news N hS
    exact FnAt.of N (hS _ (.head _))
end
end Mine01
end
namespace Mine01
theorem rest10 : True ∧ True := by w_top off; first | (walk1; all_goals trivial) | exact ⟨trivial, trivial⟩
end Mine01

section
namespace Mine01
open DivM Lp
section
variable {prog : Program} {w : World} {p : Program} {loose : List Str} {mean : ExcName → Option Value} {mg mb : Str → Option Value}
  {dp un : Nat} {gd : Option (List Code)} {cn : Str} {cs : Scope} {ad : Addr} {ccd : Value} {cl : List (Str × Addr)} {outer : List Env} {A₀ : Around} {base h₀ : Heap} {L : Addr} {m : Str → Option Value} {news : List (Addr × Obj)} {s : Shared} {Q E : Value → Shared → Prop}
/-- the code table: empty, or filled by a tape made before -/
def TabOk (tb : Array Value) (news : List (Addr × Obj)) : Prop := tb = #[] ∨ ∃ c1 c2, tb = hitTb c1 c2 ∧ TabHit news c1 c2
theorem tabOk_mono {tb : Array Value} {news news' : List (Addr × Obj)} (h : TabOk tb news) (hs : ∀ q ∈ news, q ∈ news') : TabOk tb news' := by
  rcases h with h | ⟨c1, c2, h, oc1, oc2, v1, v2, t1, t2, m1, m2, r1, r2, r3, r4⟩
  · exact .inl h
  · exact .inr ⟨c1, c2, h, oc1, oc2, v1, v2, t1, t2, hs _ m1, hs _ m2, r1, r2, r3, r4⟩
theorem tape_any {old : List (Addr × Obj)} {size bits cut : Int} {t1 t2 t3 : Tok} {la qa : Addr} {vs : Array Value} {c : Nat} {ps : List (Int × Int × List UInt8)} {tb : Array Value}
    (hb0 : 0 < bits) (hb1 : bits ≤ 8000) (hz0 : 2 ^ (bits.toNat - 1) ≤ size) (hz1 : size < 2 ^ bits.toNat) (hps : ∀ q ∈ ps, 0 ≤ q.1 ∧ q.1 < 2 ^ bits.toNat ∧ q.2.2.length ≤ 100)
    (C : CodeHd base 157 153) (hn153 : ∀ p ∈ news, p.1 ≠ 153) (hold : ∀ q ∈ old, q ∈ news) (htb : TabOk tb old)
    (H : Here w p loose mean mg mb 10 dp un cs outer A₀ base h₀ L m ((153, tabObj tb) :: news) s.heap)
    (hret : ∀ (k1 k2 : Addr) (x dx fs fr : Addr) (td : Value → Obj) (S : List (Addr × Obj)) h' tk' t0,
      Fr h₀ L h' m → News h₀ L h' ((153, tabObj (hitTb k1 k2)) :: (dx, td (.int 0 t0)) :: (S ++ news)) → (∀ q ∈ S, @Ne Nat q.1 dx ∧ (q ∈ old ∨ ∀ r ∈ news, @Ne Nat q.1 r.1)) → (∀ r ∈ news, @Ne Nat r.1 dx) → @Ne Nat 153 dx → TabHit S k1 k2 →
      SeekK prog w p loose mean mg mb dx fs td S → ReadK prog w p loose mean mg mb dx qa fr td S size bits cut la vs c ps → GetK prog w x dx fs "seek" td S → GetK prog w x dx fr "read" td S → FnK fs S → FnK fr S → Q (.ref x) { s with heap := h', toks := tk' }) :
    wpAny (model prog w) (ktrTop dp un gd cn cs L ad ccd cl outer) (call (.ref 158) [.ref la, .int size t1, .int bits t2, .int cut t3, .ref qa]) Q E s := by
  rcases htb with rfl | ⟨c1, c2, rfl, hh⟩
  · exact tape_call hb0 hb1 hz0 hz1 hps C hn153 H hret
  · exact tape_hit hb0 hb1 hz0 hz1 hps C hn153 H hold hh hret
end
end Mine01
end

section
namespace Unp
open Builtin Builtin.Struct
/-- the number that bytes tell, lowest first -/
def leN (l : List UInt8) : Nat := l.foldr (fun c n => n * 256 + c.toNat) 0
theorem natOf_ext (data : List UInt8) (i j : Nat) : natOf false (data.toArray.extract i j) = leN ((data.drop i).take (j - i)) := by
  unfold natOf Memoryview.littleEndian leN
  rw [if_neg (by decide)]
  rw [← Array.foldr_toList]
  simp [List.extract_eq_take_drop]
theorem kind_u : builtinKind "_struct.unpack" = none := by decide +kernel
theorem plain_u : plainId "_struct.unpack" = true := by decide +kernel
theorem entry_u : entryFor table "_struct.unpack" = some Builtin.«_struct.unpack» := entryFor_of_tree (by kernel_rfl)
theorem args_u (a b : Value) : argsOk "_struct.unpack" ⟨[a, b], []⟩ := by unfold argsOk; kernel_rfl
def fLoc : Format := ⟨false, false, [⟨'s', 4, 0, 1⟩, ⟨'L', 1, 4, 4⟩, ⟨'Q', 1, 8, 8⟩, ⟨'L', 1, 16, 4⟩], 20, 4⟩
def fRec : Format := ⟨false, false, [⟨'s', 4, 0, 1⟩, ⟨'Q', 1, 4, 8⟩, ⟨'H', 2, 12, 2⟩, ⟨'L', 2, 16, 4⟩, ⟨'Q', 4, 24, 8⟩], 56, 10⟩
theorem mf_loc (t : Tok) : moduleFormat (.str (PySem.Str.ofString "<4sLQL") t) = pure fLoc := by kernel_rfl
theorem mf_rec (t : Tok) : moduleFormat (.str (PySem.Str.ofString "<4sQ2H2L4Q") t) = pure fRec := by kernel_rfl
section
variable {c0 c1 c2 c3 : UInt8} {r : List UInt8}
theorem ext4 : ((c0 :: c1 :: c2 :: c3 :: r).toArray.extract (0+0) (0+0+4)) = #[c0, c1, c2, c3] := by simp
theorem un_loc (id : String) : unpacked id fLoc (c0 :: c1 :: c2 :: c3 :: r).toArray 0 =
    (mkBytes #[c0, c1, c2, c3] >>= fun v0 => mkInt (natOf false ((c0 :: c1 :: c2 :: c3 :: r).toArray.extract 4 8) : Nat) >>= fun v1 => mkInt (natOf false ((c0 :: c1 :: c2 :: c3 :: r).toArray.extract 8 16) : Nat) >>= fun v2 =>
      mkInt (natOf false ((c0 :: c1 :: c2 :: c3 :: r).toArray.extract 16 20) : Nat) >>= fun v3 => newTuple [v0, v1, v2, v3]) := by
  unfold Struct.unpacked fLoc
  dsimp -failIfUnchanged only
  rw [List.forIn_cons]
  dsimp only
  rw [ext4]
  kernel_rfl
theorem un_rec (id : String) : unpacked id fRec (c0 :: c1 :: c2 :: c3 :: r).toArray 0 =
    (mkBytes #[c0, c1, c2, c3] >>= fun v0 => mkInt (natOf false ((c0 :: c1 :: c2 :: c3 :: r).toArray.extract 4 12) : Nat) >>= fun v1 => 
      mkInt (natOf false ((c0 :: c1 :: c2 :: c3 :: r).toArray.extract 12 14) : Nat) >>= fun v2 =>
      mkInt (natOf false ((c0 :: c1 :: c2 :: c3 :: r).toArray.extract 14 16) : Nat) >>= fun v3 => 
      mkInt (natOf false ((c0 :: c1 :: c2 :: c3 :: r).toArray.extract 16 20) : Nat) >>= fun v4 => 
      mkInt (natOf false ((c0 :: c1 :: c2 :: c3 :: r).toArray.extract 20 24) : Nat) >>= fun v5 => 
      mkInt (natOf false ((c0 :: c1 :: c2 :: c3 :: r).toArray.extract 24 32) : Nat) >>= fun v6 => 
      mkInt (natOf false ((c0 :: c1 :: c2 :: c3 :: r).toArray.extract 32 40) : Nat) >>= fun v7 => 
      mkInt (natOf false ((c0 :: c1 :: c2 :: c3 :: r).toArray.extract 40 48) : Nat) >>= fun v8 => 
      mkInt (natOf false ((c0 :: c1 :: c2 :: c3 :: r).toArray.extract 48 56) : Nat) >>= fun v9 => newTuple [v0, v1, v2, v3, v4, v5, v6, v7, v8, v9]) := by
  unfold Struct.unpacked fRec
  dsimp -failIfUnchanged only
  rw [List.forIn_cons]
  dsimp only
  rw [ext4]
  kernel_rfl
end
theorem four {d : List UInt8} {n : Nat} (h : d.length = n + 4) : ∃ c0 c1 c2 c3 r, d = c0 :: c1 :: c2 :: c3 :: r := by
  match d, h with
  | c0 :: c1 :: c2 :: c3 :: r, _ => exact ⟨c0, c1, c2, c3, r, rfl⟩
def sl (d : List UInt8) (i j : Nat) : Int := (leN ((d.drop i).take (j - i)) : Nat)
theorem body_eq {fs : PySem.Str} {t u : Tok} {b : Array UInt8} {f : Format} (hf : moduleFormat (.str fs t) = pure f) :
    Builtin.«_struct.unpack» ⟨[.str fs t, .bytes b u], []⟩ = unpackExact "_struct.unpack" (pure f) (.bytes b u) := by
  have : Builtin.«_struct.unpack» ⟨[.str fs t, .bytes b u], []⟩ = (moduleFormat (.str fs t) >>= fun f => unpackExact "_struct.unpack" (pure f) (.bytes b u)) := by kernel_rfl
  rw [this, hf]
  rfl
theorem exact_at {M : Model} {A : Around} {E : Value → Shared → Prop} {s : Shared} {f : Format} {b : Array UInt8} {u : Tok} {Q : Fin → Shared → Prop} (hs : b.size = f.size)
    (h : wpAny M A (Struct.unpacked "_struct.unpack" f b 0) (fun v s => Q (.done (.ret v)) s) E s) : wpAny M A (unpackExact "_struct.unpack" (pure f) (.bytes b u)) Q E s := by
  unfold unpackExact
  rw [KBd.like_eq]
  refine wpAny_bind (wpAny_pure ?_)
  refine wpAny_bind (wpAny_pure ?_)
  refine KFB.if_not (by rw [hs]; exact bne_self_eq_false _) ?_
  refine wpAny_bind (wpAny_mono h (fun v s h => wpAny_pure h) fun _ _ h => h)
section
variable {prog : Program} {w : World} {A : Around} {E : Value → Shared → Prop} {s : Shared} {h₀ : Heap} {L : Addr} {m : PySem.Str → Option Value} {news : List (Addr × Obj)} {Q : Value → Shared → Prop}
theorem unpack_loc {data : List UInt8} {t u : Tok} (hl : data.length = 20) (F : Fr h₀ L s.heap m) (N : News h₀ L s.heap news)
    (h : ∀ D t0 t1 t2 t3 c h' tk, Fr h₀ L h' m → News h₀ L h' ((D, ({ cls := .type "tuple", data := .seq #[.bytes (data.take 4).toArray t0, .int (sl data 4 8) t1, .int (sl data 8 16) t2, .int (sl data 16 20) t3] c } : Obj)) :: news) → (∀ p ∈ news, p.1 < D) → Q (.ref D) { s with heap := h', toks := tk }) :
    wpAny (model prog w) A (call (.builtin "_struct.unpack") [.str (PySem.Str.ofString "<4sLQL") t, .bytes data.toArray u]) Q E s := by
  obtain ⟨c0, c1, c2, c3, r, rfl⟩ := four (n := 16) hl
  have g : Meets (Builtin.«_struct.unpack» ⟨[.str (PySem.Str.ofString "<4sLQL") t, .bytes (c0 :: c1 :: c2 :: c3 :: r).toArray u], []⟩) (fun A R s =>
      R (.ok (.ret (.ref s.heap.objs.size))) { s with toks := s.toks + 1 + 1 + 1 + 1, heap := s.heap.push { cls := .type "tuple", data := .seq #[.bytes #[c0, c1, c2, c3] s.toks, .int (sl (c0 :: c1 :: c2 :: c3 :: r) 4 8) (s.toks + 1), .int (sl (c0 :: c1 :: c2 :: c3 :: r) 8 16) (s.toks + 1 + 1), .int (sl (c0 :: c1 :: c2 :: c3 :: r) 16 20) (s.toks + 1 + 1 + 1)] } }) := by
    refine .of_wp fun prog w A R s hS => ?_
    rw [body_eq (mf_loc t)]
    refine exact_at (by show List.length _ = _; exact hl) ?_
    rw [un_loc]
    refine wpAny_bind (wpAny_mkBytes ?_ (by show 4 ≤ sizeLine; decide))
    refine wpAny_bind (wpAny_mkInt ?_)
    refine wpAny_bind (wpAny_mkInt ?_)
    refine wpAny_bind (wpAny_mkInt ?_)
    refine wpAny_newObj_type ?_ (by show 4 ≤ sizeLine; decide)
    rw [natOf_ext, natOf_ext, natOf_ext]
    exact ⟨_, rfl, hS⟩
  refine call_function_meets kind_u plain_u entry_u (args_u _ _) g ?_
  exact h _ _ _ _ _ _ _ _ (F.push _) (N.push F _) fun p hp => Heap.lt_size (N p hp).1
theorem unpack_rec {data : List UInt8} {t u : Tok} (hl : data.length = 56) (F : Fr h₀ L s.heap m) (N : News h₀ L s.heap news)
    (h : ∀ D t0 t1 t2 t3 t4 t5 t6 t7 t8 t9 c h' tk, Fr h₀ L h' m → News h₀ L h' ((D, ({ cls := .type "tuple", data := .seq #[.bytes (data.take 4).toArray t0, .int (sl data 4 12) t1, .int (sl data 12 14) t2, .int (sl data 14 16) t3,
        .int (sl data 16 20) t4, .int (sl data 20 24) t5, .int (sl data 24 32) t6, .int (sl data 32 40) t7, .int (sl data 40 48) t8, .int (sl data 48 56) t9] c } : Obj)) :: news) → (∀ p ∈ news, p.1 < D) → Q (.ref D) { s with heap := h', toks := tk }) :
    wpAny (model prog w) A (call (.builtin "_struct.unpack") [.str (PySem.Str.ofString "<4sQ2H2L4Q") t, .bytes data.toArray u]) Q E s := by
  obtain ⟨c0, c1, c2, c3, r, rfl⟩ := four (n := 52) hl
  have g : Meets (Builtin.«_struct.unpack» ⟨[.str (PySem.Str.ofString "<4sQ2H2L4Q") t, .bytes (c0 :: c1 :: c2 :: c3 :: r).toArray u], []⟩) (fun A R s =>
      R (.ok (.ret (.ref s.heap.objs.size))) { s with toks := s.toks + 1 + 1 + 1 + 1 + 1 + 1 + 1 + 1 + 1 + 1, heap := s.heap.push { cls := .type "tuple", data := .seq #[.bytes #[c0, c1, c2, c3] s.toks, .int (sl (c0 :: c1 :: c2 :: c3 :: r) 4 12) (s.toks + 1), .int (sl (c0 :: c1 :: c2 :: c3 :: r) 12 14) (s.toks + 1 + 1),
        .int (sl (c0 :: c1 :: c2 :: c3 :: r) 14 16) (s.toks + 1 + 1 + 1), .int (sl (c0 :: c1 :: c2 :: c3 :: r) 16 20) (s.toks + 1 + 1 + 1 + 1), .int (sl (c0 :: c1 :: c2 :: c3 :: r) 20 24) (s.toks + 1 + 1 + 1 + 1 + 1), .int (sl (c0 :: c1 :: c2 :: c3 :: r) 24 32) (s.toks + 1 + 1 + 1 + 1 + 1 + 1),
        .int (sl (c0 :: c1 :: c2 :: c3 :: r) 32 40) (s.toks + 1 + 1 + 1 + 1 + 1 + 1 + 1), .int (sl (c0 :: c1 :: c2 :: c3 :: r) 40 48) (s.toks + 1 + 1 + 1 + 1 + 1 + 1 + 1 + 1), .int (sl (c0 :: c1 :: c2 :: c3 :: r) 48 56) (s.toks + 1 + 1 + 1 + 1 + 1 + 1 + 1 + 1 + 1)] } }) := by
    refine .of_wp fun prog w A R s hS => ?_
    rw [body_eq (mf_rec t)]
    refine exact_at (by show List.length _ = _; exact hl) ?_
    rw [un_rec]
    refine wpAny_bind (wpAny_mkBytes ?_ (by show 4 ≤ sizeLine; decide))
    iterate 9 (refine wpAny_bind (wpAny_mkInt ?_); dsimp only)
    refine wpAny_newObj_type ?_ (by show 10 ≤ sizeLine; decide)
    simp only [natOf_ext]
    exact ⟨_, rfl, hS⟩
  refine call_function_meets kind_u plain_u entry_u (args_u _ _) g ?_
  exact h _ _ _ _ _ _ _ _ _ _ _ _ _ _ (F.push _) (N.push F _) fun p hp => Heap.lt_size (N p hp).1
end
def win (n : Nat) : Int × Int := Bytes.window n none none
theorem win_eq (n : Nat) : win n = (0, (n : Int)) := by
  unfold win Bytes.window
  dsimp only [Option.getD]
  rw [if_neg (by omega), if_neg (by omega)]
  congr 1
  exact Int.min_self _
def fits4 (b c : Array UInt8) : Bool := if (win b.size).2 - (win b.size).1 < (c.size : Int) then false else b.extract (win b.size).1.toNat ((win b.size).1.toNat + c.size) == c
theorem starts_at {M : Model} {A : Around} {E : Value → Shared → Prop} {s : Shared} {b c : Array UInt8} {t u : Tok} {Q : Fin → Shared → Prop} (h : Q (.done (.ret (.bool (fits4 b c)))) s) :
    wpAny M A (Builtin.«bytes.startswith» ⟨[.bytes b t, .bytes c u], []⟩) Q E s := by
  have e : Builtin.«bytes.startswith» ⟨[.bytes b t, .bytes c u], []⟩ = (Bytes.buffer? "bytes.startswith" (.bytes c u) >>= fun o => match o with
      | some sub => ret (.bool (fits4 b sub))
      | none => do rule s!"{"bytes.startswith"}.bad-type"; raiseError "TypeError" s!"{"startswith"} first arg must be bytes or a tuple of bytes, not {← typeNameOf (.bytes c u)}") := by kernel_rfl
  rw [e]
  refine wpAny_bind (wpAny_of_eq (a := some c) KBy.buffer_eq ?_)
  exact wpAny_pure h
theorem gives_starts (b c : Array UInt8) (t u : Tok) : Gives (Builtin.«bytes.startswith» ⟨[.bytes b t, .bytes c u], []⟩) (.val (.bool (fits4 b c))) := by
  refine .of_wp fun M A E s Q hq => ?_
  exact starts_at ⟨_, rfl, hq⟩
theorem fits4_eq {d c : List UInt8} (h : c.length ≤ d.length) : fits4 d.toArray c.toArray = (d.take c.length == c) := by
  unfold fits4
  rw [win_eq]
  rw [if_neg (by show ¬ ((d.length : Int) - 0 < (c.length : Int)); omega)]
  show (d.toArray.extract 0 (0 + c.length) == c.toArray) = _
  simp
theorem starts_call {prog : Program} {w : World} {A : Around} {E : Value → Shared → Prop} {s : Shared} {d c : List UInt8} {t u : Tok} {Q : Value → Shared → Prop} (hc : c.length ≤ d.length) (h : Q (.bool (d.take c.length == c)) s) :
    wpAny (model prog w) A (call (.builtin "bytes.startswith") [.bytes d.toArray t, .bytes c.toArray u]) Q E s :=
  call_gives FB.slot_bytes_startswith (typeIs_bytes _ _ _) FB.entry_bytes_startswith (FB.args_bytes_startswith_2 _ _) (gives_starts _ _ _ _) (by rw [fits4_eq hc]; exact h)
theorem starts_method {M : Model} {A : Around} {E : Value → Shared → Prop} {s : Shared} {b : Array UInt8} {t : Tok} {pl : Sem Bool} {Q : Value × List Value → Shared → Prop} (h : Q (.builtin "bytes.startswith", [.bytes b t]) s) : wpAny M A (getMethod (.bytes b t) "startswith" pl) Q E s := by
  with_reducible exact KBd.method_of (.bytes b t) (typeIs_bytes _ _ _) FB.slot_bytes_startswith FB.type_bytes_startswith KBd.noRef h
end Unp
end

section
namespace OsX
open Builtin Builtin.OSError
theorem mro_os : mroOf (.type "OSError") = pure [.type "OSError", .type "Exception", .type "BaseException", .type "object"] := by rw [mroOf_type]; kernel_rfl
theorem lk_new : typeLookup (.type "OSError") "__new__" = pure (some (.builtin "OSError.__new__")) := by rw [typeLookup_type, builtinLookup_eq_fast]; kernel_rfl
theorem slot_init : Slot "OSError" "__init__" "OSError.__init__" :=
  .of (owner := "OSError") (n := "__init__") (by rw [typeLookup_type, builtinLookup_eq_fast]; kernel_rfl) (by decide +kernel) (by decide +kernel) (by decide +kernel)
    (by first | exact .inl (by decide +kernel) | exact .inr (by decide +kernel)) (by rw [isSubtype_type]; kernel_rfl)
theorem sub_self : isSubtype (.type "OSError") (.type "OSError") = pure true := by rw [isSubtype_type]; kernel_rfl
theorem sub_base : isSubtype (.type "OSError") (.type "BaseException") = pure true := by rw [isSubtype_type]; kernel_rfl
theorem called : TypeCalled "OSError" "OSError.__new__" "OSError.__init__" :=
  ⟨by decide +kernel, by decide +kernel, ⟨_, _, mro_os⟩, madeBy_type mro_os lk_new (by decide +kernel), by decide +kernel, sub_self, slot_init⟩
theorem typeCall (a : Value) : checkTypeCall "OSError" ⟨[a], []⟩ = pure () := by kernel_rfl
theorem newCall (a : Value) : checkBuiltinCall "OSError.__new__" ⟨[.type "OSError", a], []⟩ = pure () := by kernel_rfl
theorem entry_new : entryFor table "OSError.__new__" = some Builtin.«OSError.__new__» := entryFor_of_tree (by kernel_rfl)
theorem entry_init : entryFor table "OSError.__init__" = some Builtin.«OSError.__init__» := entryFor_of_tree (by kernel_rfl)
theorem args_init (o a : Value) : argsOk "OSError.__init__" ⟨[o, a], []⟩ := by unfold argsOk; kernel_rfl
theorem metaType : (Value.type ((Manifest.find? "OSError").elim "type" (·.metatype)) == Value.type "type") = true := by decide +kernel
theorem drop_id : "OSError.__init__".dropRight ".__init__".length = "OSError" := by decide +kernel
theorem reads : osReadsInInit (.type "OSError") = pure false := by
  unfold osReadsInInit
  rw [slot_init.lookup]
  rw [pure_bind]
  dsimp only
  rw [if_pos (by decide +kernel), drop_id, sub_self]
  rfl
/-- an OSError, newly made -/
structure Made (h h' : Heap) (e : Addr) : Prop where
  keeps : ∀ b o, h.get? b = some o → h'.get? b = some o
  new : h.get? e = none
  there : ∃ ob vs a0, h'.get? e = some ob ∧ ob.cls = .type "OSError" ∧ ob.data = .fields vs ∧ vs[1]? = some .none ∧ vs[0]? = some a0
section
variable {M : Model} {A : Around} {E : Value → Shared → Prop} {s : Shared} {Q : Unit → Shared → Prop} {h₀ : Heap}
theorem put {e : Addr} {ob : Obj} {vs : Array Value} {i : Nat} {v : Value} (hi : i < vs.size) (h1 : i ≠ 1) (h0 : vs.size = 11) (he : s.heap.get? e = some ob) (hc : ob.cls = .type "OSError") (hd : ob.data = .fields vs) (hn : vs[1]? = some .none) (hh : ∀ b o, h₀.get? b = some o → s.heap.get? b = some o) (hne : h₀.get? e = none)
    (h : ∀ h' ob' vs', h'.get? e = some ob' → ob'.cls = .type "OSError" → ob'.data = .fields vs' → vs'[1]? = some .none → vs'.size = 11 → (∀ b o, h₀.get? b = some o → h'.get? b = some o) → Q () { s with heap := h' }) : wpAny M A (osPut (.ref e) i v) Q E s := by
  unfold osPut
  refine wpAny_bind (wpAny_field he hd (x := vs[i]) (Array.getElem?_eq_getElem hi) ?_)
  refine wpAny_bind (wpAny_setField he hd hi ?_)
  refine wpAny_letGo ?_
  refine h _ _ _ (Heap.get?_update_self _ he (Obj.isFreed_of_fields (Obj.data_mapFields hd _))) ((Obj.cls_mapFields _ _).trans hc) (Obj.data_mapFields hd _) ?_ (by simpa using h0) fun b o hb => ?_
  · rw [Array.getElem?_setIfInBounds_ne h1]
    exact hn
  · rw [Heap.get?_update_other _ _ (fun q => by rw [← q, hne] at hb; cases hb)]
    exact hh b o hb
end
theorem new_os (a : Value) : Meets (Builtin.«OSError.__new__» ⟨[.type "OSError", a], []⟩) (fun _ R s => ∀ e h', Made s.heap h' e → R (.ok (.ret (.ref e))) { s with heap := h' }) := by
  refine .of_wp fun prog w A R s hS => ?_
  unfold Builtin.«OSError.__new__»
  dsimp only
  refine wpAny_bind (wpAny_of_eq (a := true) (by first | rfl | kernel_rfl) ?_)
  refine KFB.if_not rfl ?_
  refine wpAny_bind (wpAny_of_eq sub_self ?_)
  refine KFB.if_not rfl ?_
  refine wpAny_bind (wpAny_of_eq reads ?_)
  refine KFB.if_not rfl ?_
  refine KFB.if_not rfl ?_
  refine KFB.if_not (by rfl) ?_
  refine wpAny_bind (wpAny_bind (wpAny_newObj_type (wpAny_newObj_type ?_ (by show 11 ≤ sizeLine + 2; decide)) (by show 0 ≤ sizeLine; decide)))
  refine wpAny_bind ?_
  unfold osGiveMeaning
  dsimp only
  show wpAny _ _ (osPut _ 6 osUnset >>= fun _ => osPut _ 7 osUnset >>= fun _ => newTuple [a] >>= fun v => osPut _ 0 v) _ _ _
  have hk : ∀ b o, s.heap.get? b = some o → ((s.heap.push { cls := .type "tuple", data := .seq ([] : List Value).toArray }).push { cls := .type "OSError", data := .fields (#[.ref s.heap.objs.size, .none, .none, .none, .bool false, .none] ++ osNothingGiven) }).get? b = some o := fun b o hb => Heap.get?_push_of_some _ (Heap.get?_push_of_some _ hb)
  have hne : s.heap.get? (s.heap.push { cls := .type "tuple", data := .seq ([] : List Value).toArray }).objs.size = none := Heap.get?_none_of_le (by simp)
  refine wpAny_bind (put (vs := #[.ref s.heap.objs.size, .none, .none, .none, .bool false, .none] ++ osNothingGiven) (by show 6 < 11; decide) (by decide) rfl (Heap.get?_push_size _ rfl) rfl rfl rfl hk hne fun h1 o1 v1 e1 c1 d1 n1 z1 k1 => ?_)
  refine wpAny_bind (put (vs := v1) (by omega) (by decide) z1 e1 c1 d1 n1 k1 hne fun h2 o2 v2 e2 c2 d2 n2 z2 k2 => ?_)
  refine wpAny_bind (wpAny_newObj_type ?_ (by show 1 ≤ sizeLine; decide))
  refine put (vs := v2) (by omega) (by decide) z2 (Heap.get?_push_of_some _ e2) c2 d2 n2 (fun b o hb => Heap.get?_push_of_some _ (k2 b o hb)) hne fun h3 o3 v3 e3 c3 d3 n3 z3 k3 => ?_
  exact wpAny_pure ⟨_, rfl, hS _ _ ⟨k3, hne, o3, v3, v3[0], e3, c3, d3, n3, Array.getElem?_eq_getElem (by omega)⟩⟩
theorem init_os {e : Addr} {a : Value} : Meets (Builtin.«OSError.__init__» ⟨[.ref e, a], []⟩) (fun _ R s => s.TypeIs (.ref e) "OSError" ∧ R (.ok (.ret .none)) s) := by
  refine .of_wp fun prog w A R s hS => ?_
  unfold Builtin.«OSError.__init__»
  dsimp only
  refine wpAny_bind (wpAny_typeOf hS.1 ?_)
  refine wpAny_bind (wpAny_of_eq reads ?_)
  refine KFB.if_so rfl ?_
  refine wpAny_bind (wpAny_rule ?_)
  exact wpAny_pure ⟨_, rfl, hS.2⟩
section
variable {prog : Program} {w : World} {A : Around} {E : Value → Shared → Prop} {s : Shared}
theorem call_os {a : Value} {Q : Value → Shared → Prop} (h : ∀ e h', Made s.heap h' e → Q (.ref e) { s with heap := h' }) : wpAny (model prog w) A (call (.type "OSError") [a]) Q E s := by
  refine callType_meets (Q₁ := fun v s₁ => ∃ e h', v = .ref e ∧ s₁ = { s with heap := h' } ∧ Made s.heap h' e) called (typeCall a) (newCall a) entry_new entry_init (new_os a) (fun e h' m => ⟨e, h', rfl, rfl, m⟩) ?_
  rintro obj s₁ ⟨e, h', rfl, rfl, m⟩
  obtain ⟨ob, vs, a0, h1, h2, h3, h4, h5⟩ := m.there
  exact ⟨⟨ob, h1, h2⟩, args_init _ _, _, init_os, ⟨ob, h1, h2⟩, rfl, h e h' m⟩
end
def There (v : Value) (h : Heap) : Prop := ∃ a ob vs a0, v = .ref a ∧ h.get? a = some ob ∧ ob.cls = .type "OSError" ∧ ob.data = .fields vs ∧ vs[1]? = some .none ∧ vs[0]? = some a0
theorem Made.at_ {h h' : Heap} {e : Addr} (m : Made h h' e) : There (.ref e) h' := by
  obtain ⟨ob, vs, a0, h1, h2, h3, h4, h5⟩ := m.there
  exact ⟨e, ob, vs, a0, rfl, h1, h2, h3, h4, h5⟩
theorem raise_os {M : Model} {A : Around} {E : Value → Shared → Prop} {s : Shared} {env : Env} {x : Expr} {pos : Pos} {Q : Flow → Shared → Prop} (hh : A.handled = none)
    (h : wpAny M A (eval x env) (fun v s₁ => There v s₁.heap ∧ E v s₁) E s) : wpAny M A (exec (.Raise (some x) none pos) env) Q E s := by
  show wpAny M A (standAt pos >>= fun _ => raiseStmt env (some (eval x env >>= fun v => standAt pos >>= fun _ => pure v)) none) Q E s
  refine wpAny_bind (wpAny_standAt ?_)
  unfold raiseStmt
  dsimp only
  refine wpAny_bind (wpAny_bind (wpAny_mono h (fun v s₁ h₁ => wpAny_bind (wpAny_standAt (wpAny_pure ?_))) fun _ _ x => x))
  obtain ⟨⟨a, ob, vs, a0, rfl, ha, hc, hd, h1, _⟩, hE⟩ := h₁
  have ty : s₁.TypeIs (.ref a) "OSError" := ⟨ob, ha, hc⟩
  have nt : ∀ {Q' : Bool → Shared → Prop}, Q' false s₁ → wpAny M A (isType (.ref a)) Q' E s₁ := fun {Q'} hq => by
    simp only [isType, loadHead]
    refine wpAny_bind (wpAny_loadPart ha ?_)
    rw [hd]
    exact wpAny_pure hq
  refine wpAny_bind (wpAny_pure ?_)
  dsimp only
  refine wpAny_bind (wpAny_holding ?_)
  unfold excFromValue isExcClass
  refine wpAny_bind (wpAny_bind (nt ?_))
  refine KFB.if_not rfl ?_
  refine wpAny_pure ?_
  refine KFB.if_not rfl ?_
  refine wpAny_bind (wpAny_isInstance ty sub_base ?_)
  refine KFB.if_so rfl ?_
  refine wpAny_pure ?_
  refine wpAny_bind (nt ?_)
  refine KFB.if_not rfl ?_
  unfold raisedInstance
  refine wpAny_bind (wpAny_bind (wpAny_typeOf ty (wpAny_bind (m := typeOf (.type "OSError")) (wpAny_pure ?_))))
  rw [if_pos metaType]
  refine wpAny_pure ?_
  unfold setFlight raiseNew
  refine wpAny_bind (wpAny_bind (wpAny_field ha hd h1 ?_))
  rw [if_neg (by decide)]
  refine wpAny_pure (wpAny_bind (wpAny_handled ?_))
  rw [hh]
  first
    | exact wpAny_throw hE
    | exact wpAny_bind (wpAny_pure (wpAny_throw hE))
theorem leave_os {M : Model} {A : Around} {E : Value → Shared → Prop} {s' : Shared} {base g h : Heap} {outer : List Env} {L a e : Addr} {m : PySem.Str → Option Value} {name : PySem.Str} {scope : Scope} {cd : Value} {Q : Unit → Shared → Prop} {news : List (Addr × Obj)}
    (K : Below A base outer g) (hx : Made h s'.heap e) (F : Fr g L h m) (N : News g L h news)
    (hQ : ∀ h', RaisedSN base g outer e (.type "OSError") news h' → g.UpToSlots h' → Q () { s' with heap := h' }) (hk : scope.kind = .function := by rfl) :
    wpAny M (A.deeper (envOf name scope L a cd)) (leaving (envOf name scope L a cd) (.ref e)) Q E s' := by
  have K' := K.push (name := name) (a := a) (cd := cd) F hk
  obtain ⟨ob, vs, a0, h1, h2, h3, h4, h5⟩ := hx.there
  have out : ∀ b o, base.get? b = some o → b ∉ (envOf name scope L a cd :: outer).filterMap (·.frame) := fun b o q hm => by
    have z := (K'.frames.mem hm).1
    rw [q] at z
    cases z
  have inB : ∀ b o, h.get? b = some o → b ∉ (envOf name scope L a cd :: outer).filterMap (·.frame) → (hideAll h ((envOf name scope L a cd :: outer).filterMap (·.frame))).get? b = some o := fun b o q nm => hideAll_get _ q nm
  have newE : (hideAll h ((envOf name scope L a cd :: outer).filterMap (·.frame))).get? e = none := by
    cases q : (hideAll h ((envOf name scope L a cd :: outer).filterMap (·.frame))).get? e with
    | none => rfl
    | some o => have z := of_hideAll _ q; rw [hx.new] at z; cases z
  have led : ∀ q ∈ news, (hideAll h ((envOf name scope L a cd :: outer).filterMap (·.frame))).get? q.1 = some q.2 ∧ g.get? q.1 = none ∧ base.get? q.1 = none := fun q hq => by
    refine ⟨inB _ _ (N q hq).1 fun hm => ?_, (N q hq).2.2, fresh_of_stays K.stays (N q hq).2.2⟩
    rcases kts_mem hm with z | z
    · exact (N q hq).2.1 z
    · obtain ⟨_, o, ho, _⟩ := K.frames.mem z
      rw [(N q hq).2.2] at ho
      cases ho
  have stG : ∀ b o, g.get? b = some o → b ∉ outer.filterMap (·.frame) → (hideAll h ((envOf name scope L a cd :: outer).filterMap (·.frame))).get? b = some o := fun b o q nm => inB b o (F.keep b o q) fun hm => by
    rcases kts_mem hm with z | z
    · rw [z, kts_self F] at q
      cases q
    · exact nm z
  refine wpAny_leaving_firstW (a0 := a0) K'.stack ((funFrames_hide K'.frames fun env he b hb => List.mem_filterMap.mpr ⟨env, he, hb⟩).of_keeps fun b o hb _ => ⟨o, hx.keeps b o hb, rfl⟩) rfl h1 (fun b o hb => hx.keeps b o (of_hideAll _ hb)) newE h3 h4 h5 fun h' hL => ?_
  obtain ⟨k1, ⟨_, _, k2⟩, k3, k4⟩ := hL
  exact hQ h' ⟨_, a0, fun b o q => inB b o (K'.stays b o q) (out b o q), stG, led, k1, newE, k2, by rw [← h2]; exact k3⟩ (((Heap.UpToSlots.of_keeps F.keep).trans (Heap.UpToSlots.of_keeps hx.keeps)).trans k4)
end OsX
end
namespace Mine01
theorem rest13 : True ∧ True := by w_top off; first | (walk1; all_goals trivial) | exact ⟨trivial, trivial⟩
end Mine01

section
namespace Mine01
open DivM Lp

section
variable {h₀ h : Heap} {L : Addr} {a b1 b2 b3 b4 b5 b6 b7 : Addr × Obj} {r : List (Addr × Obj)}
theorem rotg {l1 l2 : List (Addr × Obj)} (N : News h₀ L h (l1 ++ a :: l2)) : News h₀ L h (a :: (l1 ++ l2)) := cb_drop N fun q hq => by
  rcases List.mem_cons.mp hq with rfl | hq
  · exact List.mem_append_right _ (.head _)
  · rcases List.mem_append.mp hq with h | h
    · exact List.mem_append_left _ h
    · exact List.mem_append_right _ (.tail _ h)
theorem roqg {b : Addr × Obj} {l1 l2 : List (Addr × Obj)} (N : News h₀ L h (b :: (l1 ++ a :: l2))) : News h₀ L h (b :: a :: (l1 ++ l2)) := cb_drop N fun q hq => by
  rcases List.mem_cons.mp hq with rfl | hq
  · exact .head _
  · refine .tail _ ?_
    rcases List.mem_cons.mp hq with rfl | hq
    · exact List.mem_append_right _ (.head _)
    · rcases List.mem_append.mp hq with h | h
      · exact List.mem_append_left _ h
      · exact List.mem_append_right _ (.tail _ h)
theorem rot1 (N : News h₀ L h (b1 :: a :: r)) : News h₀ L h (a :: b1 :: r) := rotg (l1 := [b1]) N
theorem rot2 (N : News h₀ L h (b1 :: b2 :: a :: r)) : News h₀ L h (a :: b1 :: b2 :: r) := rotg (l1 := [b1, b2]) N
theorem rot3 (N : News h₀ L h (b1 :: b2 :: b3 :: a :: r)) : News h₀ L h (a :: b1 :: b2 :: b3 :: r) := rotg (l1 := [b1, b2, b3]) N
theorem rot4 (N : News h₀ L h (b1 :: b2 :: b3 :: b4 :: a :: r)) : News h₀ L h (a :: b1 :: b2 :: b3 :: b4 :: r) := rotg (l1 := [b1, b2, b3, b4]) N
theorem rot5 (N : News h₀ L h (b1 :: b2 :: b3 :: b4 :: b5 :: a :: r)) : News h₀ L h (a :: b1 :: b2 :: b3 :: b4 :: b5 :: r) := rotg (l1 := [b1, b2, b3, b4, b5]) N
theorem rot6 (N : News h₀ L h (b1 :: b2 :: b3 :: b4 :: b5 :: b6 :: a :: r)) : News h₀ L h (a :: b1 :: b2 :: b3 :: b4 :: b5 :: b6 :: r) := rotg (l1 := [b1, b2, b3, b4, b5, b6]) N
theorem roq1 (N : News h₀ L h (b7 :: b1 :: a :: r)) : News h₀ L h (b7 :: a :: b1 :: r) := roqg (l1 := [b1]) N
theorem roq2 (N : News h₀ L h (b7 :: b1 :: b2 :: a :: r)) : News h₀ L h (b7 :: a :: b1 :: b2 :: r) := roqg (l1 := [b1, b2]) N
theorem roq3 (N : News h₀ L h (b7 :: b1 :: b2 :: b3 :: a :: r)) : News h₀ L h (b7 :: a :: b1 :: b2 :: b3 :: r) := roqg (l1 := [b1, b2, b3]) N
theorem roq4 (N : News h₀ L h (b7 :: b1 :: b2 :: b3 :: b4 :: a :: r)) : News h₀ L h (b7 :: a :: b1 :: b2 :: b3 :: b4 :: r) := roqg (l1 := [b1, b2, b3, b4]) N
theorem roq5 (N : News h₀ L h (b7 :: b1 :: b2 :: b3 :: b4 :: b5 :: a :: r)) : News h₀ L h (b7 :: a :: b1 :: b2 :: b3 :: b4 :: b5 :: r) := roqg (l1 := [b1, b2, b3, b4, b5]) N
theorem roq6 (N : News h₀ L h (b7 :: b1 :: b2 :: b3 :: b4 :: b5 :: b6 :: a :: r)) : News h₀ L h (b7 :: a :: b1 :: b2 :: b3 :: b4 :: b5 :: b6 :: r) := roqg (l1 := [b1, b2, b3, b4, b5, b6]) N
end
theorem subT {α : Type} {S r : List α} {a : α} (h : ∀ q ∈ S, q ∈ r) : ∀ q ∈ S, q ∈ a :: r := fun q hq => .tail _ (h q hq)

/-- the bytes at a place of the tape -/
def tapeB (size : Int) (ps : List (Int × Int × List UInt8)) (o cnt : Int) : List UInt8 := lookL (o / size) (o % size) cnt size ps

section
variable {prog : Program} {w : World} {p : Program} {loose : List Str} {mean : ExcName → Option Value} {mg mb : Str → Option Value} {dx qa fs fr la x : Addr} {td : Value → Obj} {S : List (Addr × Obj)} {size bits cut : Int} {vs : Array Value} {lc : Nat} {ps : List (Int × Int × List UInt8)}
theorem tapeB_eq {V P cnt o : Int} (e : V * size + P = o) (h0 : 0 ≤ P) (h1 : P < size) : lookL V P cnt size ps = tapeB size ps o cnt := by
  obtain ⟨a, b⟩ := DivM.ediv_of e.symm h0 h1
  unfold tapeB
  rw [a, b]

theorem get_use {f : Addr} {name : Str} (hg : GetK prog w x dx f name td S) {v : Value} {A : Around} {h₀ : Heap} {L : Addr} {m : Str → Option Value} {rest : List (Addr × Obj)} {s : Shared} {pl : Sem Bool} {Q : Value × List Value → Shared → Prop} {E : Value → Shared → Prop}
    (F : Fr h₀ L s.heap m) (X : (hd.heap_39 w.params).In h₀) (N : News h₀ L s.heap ((dx, td v) :: rest)) (hS : ∀ q ∈ S, q ∈ rest) (h : ∀ tk', Q (.ref f, []) { s with toks := tk' }) :
    wpAny (model prog w) A (getMethod (.ref x) name pl) Q E s := hg v A h₀ L m rest s pl Q E F X N hS h
section
variable {dp un : Nat} {gd : Option (List Code)} {cn : Str} {cs : Scope} {ad : Addr} {ccd : Value} {cl : List (Str × Addr)} {outer : List Env} {A₀ : Around} {base h₀ : Heap} {L : Addr} {m : Str → Option Value} {rest : List (Addr × Obj)} {s : Shared} {Q E : Value → Shared → Prop}
theorem seek_use (hk : SeekK prog w p loose mean mg mb dx fs td S) {o : Int} {to : Tok} {v : Value} (H : Here w p loose mean mg mb 5 dp un cs outer A₀ base h₀ L m ((dx, td v) :: rest) s.heap) (hS : ∀ q ∈ S, q ∈ rest) (hd : ∀ q ∈ rest, q.1 ≠ dx)
    (h : ∀ h' tk', Fr h₀ L h' m → News h₀ L h' ((dx, td (.int o to)) :: rest) → Q .none { s with heap := h', toks := tk' }) :
    wpAny (model prog w) (ktrTop dp un gd cn cs L ad ccd cl outer) (call (.ref fs) [.int o to]) Q E s := hk o to v dp un gd cn cs ad ccd cl outer A₀ base h₀ L m rest s Q E H hS hd h
theorem read_use (hk : ReadK prog w p loose mean mg mb dx qa fr td S size bits cut la vs lc ps) {o cnt : Int} {to tc : Tok} {items : Array Value} {ep : Nat}
    (H : Here w p loose mean mg mb 5 dp un cs outer A₀ base h₀ L m ((dx, td (.int o to)) :: (qa, { cls := .type "list", data := .seq items ep }) :: rest) s.heap) (hS : ∀ q ∈ S, q ∈ rest) (hd : ∀ q ∈ rest, q.1 ≠ dx) (hdq : ∀ q ∈ rest, q.1 ≠ qa) (hne : dx ≠ qa)
    (h0 : 0 ≤ o) (h1 : o < 2 ^ bits.toNat * size) (hc : 0 ≤ cnt) (hc1 : cnt ≤ 64) (hi : items.size ≤ 10) (hl : (la, ({ cls := .type "list", data := .seq vs lc } : Obj)) ∈ rest) (hp : PiecesAre rest vs.toList ps)
    (hshort : (items.size : Int) + 1 = cut → ∀ (V P : Int) (D : Addr) (tV tP t : Tok) (c ep' : Nat) h' tk' (d : List UInt8), V * size + P = o → 0 ≤ P → P < size → (∀ q ∈ rest, q.1 < D) → dx < D → qa < D → Fr h₀ L h' m →
      News h₀ L h' ((D, { cls := .type "tuple", data := .seq #[.int V tV, .int P tP, .int cnt tc] c }) :: (dx, td (.int o to)) :: (qa, { cls := .type "list", data := .seq (items.push (.ref D)) ep' }) :: rest) →
      d.length = cnt.toNat - 1 → Q (.bytes d.toArray t) { s with heap := h', toks := tk' })
    (hfull : (items.size : Int) + 1 ≠ cut → ∀ (V P : Int) (D : Addr) (tV tP t : Tok) (c ep' : Nat) h' tk' (d : List UInt8), V * size + P = o → 0 ≤ P → P < size → (∀ q ∈ rest, q.1 < D) → dx < D → qa < D → Fr h₀ L h' m →
      News h₀ L h' ((D, { cls := .type "tuple", data := .seq #[.int V tV, .int P tP, .int cnt tc] c }) :: (dx, td (.int o to)) :: (qa, { cls := .type "list", data := .seq (items.push (.ref D)) ep' }) :: rest) →
      d.length = cnt.toNat → d = tapeB size ps o cnt → Q (.bytes d.toArray t) { s with heap := h', toks := tk' }) :
    wpAny (model prog w) (ktrTop dp un gd cn cs L ad ccd cl outer) (call (.ref fr) [.int cnt tc]) Q E s := by
  refine hk o cnt to tc items ep dp un gd cn cs ad ccd cl outer A₀ base h₀ L m rest s Q E H hS (fun q hq => ⟨hd q hq, hdq q hq⟩) hne h0 h1 hc hc1 hi hl hp ?_
  intro V P D tV tP t c ep' h' tk' e hP hP1 l1 l2 l3 F N
  by_cases hcut : (items.size : Int) + 1 = cut
  · rw [if_pos hcut]
    exact hshort hcut V P D tV tP t c ep' h' tk' _ e hP hP1 l1 l2 l3 F N (by rw [List.length_drop, lookL_length])
  · rw [if_neg hcut]
    exact hfull hcut V P D tV tP t c ep' h' tk' _ e hP hP1 l1 l2 l3 F N (lookL_length ..) (tapeB_eq e hP hP1)
end
def finE (r : List UInt8) (c xs e : Int) (rs : List (Int × Int)) : Nat × List (Int × Int) × Option (List UInt8 × Int) :=
  if r.take 4 ≠ [80, 75, 6, 6] then (1, rs, none) else if Unp.sl r 48 56 + Unp.sl r 40 48 ≠ c ∨ Unp.sl r 4 12 + 12 ≠ 56 + xs then (1, rs, none) else (0, rs, some (r, e - 76 - xs))
def ends2 (T : Int → Int → List UInt8) (cut e c : Int) : Nat × List (Int × Int) × Option (List UInt8 × Int) :=
  if cut = 2 then (2, [(e - 20, 20), (c, 56)], none)
  else if (T c 56).take 4 ≠ [80, 75, 6, 6] ∧ c ≠ e - 76 then
    if cut = 3 then (2, [(e - 20, 20), (c, 56), (e - 76, 56)], none)
    else finE (T (e - 76) 56) c 0 e [(e - 20, 20), (c, 56), (e - 76, 56)]
  else finE (T c 56) c (e - 76 - c) e [(e - 20, 20), (c, 56)]
/-- what the reader answers: 0 the row, 1 bad, 2 short; what it asks; the record that it tells, and its place -/
def endsE (T : Int → Int → List UInt8) (cut e : Int) : Nat × List (Int × Int) × Option (List UInt8 × Int) :=
  if e < 20 then (0, [], none) else if cut = 1 then (2, [(e - 20, 20)], none) else if (T (e - 20) 20).take 4 ≠ [80, 75, 6, 7] then (0, [(e - 20, 20)], none)
  else if Unp.sl (T (e - 20) 20) 4 8 ≠ 0 ∨ 1 < Unp.sl (T (e - 20) 20) 16 20 then (1, [(e - 20, 20)], none)
  else if e - 76 < Unp.sl (T (e - 20) 20) 8 16 then (1, [(e - 20, 20)], none)
  else ends2 T cut e (Unp.sl (T (e - 20) 20) 8 16)
section
variable {T : Int → Int → List UInt8} {cut e c xs : Int} {r : List UInt8} {rs : List (Int × Int)}
theorem fin_none (h : r.take 4 ≠ [80, 75, 6, 6]) : finE r c xs e rs = (1, rs, none) := if_pos h
theorem fin_bad (h : r.take 4 = [80, 75, 6, 6]) (h2 : Unp.sl r 48 56 + Unp.sl r 40 48 ≠ c ∨ Unp.sl r 4 12 + 12 ≠ 56 + xs) : finE r c xs e rs = (1, rs, none) := by
  unfold finE
  rw [if_neg (fun q => q h), if_pos h2]
theorem fin_ok (h : r.take 4 = [80, 75, 6, 6]) (h2 : Unp.sl r 48 56 + Unp.sl r 40 48 = c) (h3 : Unp.sl r 4 12 + 12 = 56 + xs) : finE r c xs e rs = (0, rs, some (r, e - 76 - xs)) := by
  unfold finE
  rw [if_neg (fun q => q h), if_neg (by omega)]
theorem fin_okS {sp : Int} (h : r.take 4 = [80, 75, 6, 6]) (h2 : Unp.sl r 48 56 + Unp.sl r 40 48 = c) (h3 : Unp.sl r 4 12 + 12 = 56 + xs) (h4 : sp = e - 76 - xs) : finE r c xs e rs = (0, rs, some (r, sp)) := by
  rw [h4, fin_ok h h2 h3]
theorem eqT {l sg : List UInt8} {n : Nat} (h : (l.take n == sg) = true) : l.take n = sg := by simpa using h
theorem neT {l sg : List UInt8} {n : Nat} (h : (l.take n == sg) = false) : l.take n ≠ sg := by simpa using h
theorem ends_low (h : e < 20) : endsE T cut e = (0, [], none) := if_pos h
theorem ends_short1 (h : 20 ≤ e) (hc : cut = 1) : endsE T cut e = (2, [(e - 20, 20)], none) := by
  unfold endsE
  rw [if_neg (by omega), if_pos hc]
theorem ends_nosig (h : 20 ≤ e) (hc : cut ≠ 1) (hs : (T (e - 20) 20).take 4 ≠ [80, 75, 6, 7]) : endsE T cut e = (0, [(e - 20, 20)], none) := by
  unfold endsE
  rw [if_neg (by omega), if_neg hc, if_pos hs]
theorem ends_disk (h : 20 ≤ e) (hc : cut ≠ 1) (hs : (T (e - 20) 20).take 4 = [80, 75, 6, 7]) (hd : Unp.sl (T (e - 20) 20) 4 8 ≠ 0 ∨ 1 < Unp.sl (T (e - 20) 20) 16 20) : endsE T cut e = (1, [(e - 20, 20)], none) := by
  unfold endsE
  rw [if_neg (by omega), if_neg hc, if_neg (fun q => q hs), if_pos hd]
theorem ends_far (h : 20 ≤ e) (hc : cut ≠ 1) (hs : (T (e - 20) 20).take 4 = [80, 75, 6, 7]) (hd : Unp.sl (T (e - 20) 20) 4 8 = 0) (hd2 : ¬1 < Unp.sl (T (e - 20) 20) 16 20) (hf : e - 76 < Unp.sl (T (e - 20) 20) 8 16) : endsE T cut e = (1, [(e - 20, 20)], none) := by
  unfold endsE
  rw [if_neg (by omega), if_neg hc, if_neg (fun q => q hs), if_neg (by omega), if_pos hf]
theorem ends_on (h : 20 ≤ e) (hc : cut ≠ 1) (hs : (T (e - 20) 20).take 4 = [80, 75, 6, 7]) (hd : Unp.sl (T (e - 20) 20) 4 8 = 0) (hd2 : ¬1 < Unp.sl (T (e - 20) 20) 16 20) (hf : ¬e - 76 < Unp.sl (T (e - 20) 20) 8 16) : endsE T cut e = ends2 T cut e (Unp.sl (T (e - 20) 20) 8 16) := by
  unfold endsE
  rw [if_neg (by omega), if_neg hc, if_neg (fun q => q hs), if_neg (by omega), if_neg hf]
theorem ends2_short (hc : cut = 2) : ends2 T cut e c = (2, [(e - 20, 20), (c, 56)], none) := if_pos hc
theorem ends2_here (hc : cut ≠ 2) (h : (T c 56).take 4 = [80, 75, 6, 6] ∨ c = e - 76) : ends2 T cut e c = finE (T c 56) c (e - 76 - c) e [(e - 20, 20), (c, 56)] := by
  unfold ends2
  rw [if_neg hc, if_neg (by rcases h with h | h <;> simp [h])]
theorem ends2_short3 (hc : cut = 3) (h : (T c 56).take 4 ≠ [80, 75, 6, 6]) (h2 : c ≠ e - 76) : ends2 T cut e c = (2, [(e - 20, 20), (c, 56), (e - 76, 56)], none) := by
  unfold ends2
  rw [if_neg (by omega), if_pos ⟨h, h2⟩, if_pos hc]
theorem ends2_last (hc : cut ≠ 2) (hc3 : cut ≠ 3) (h : (T c 56).take 4 ≠ [80, 75, 6, 6]) (h2 : c ≠ e - 76) : ends2 T cut e c = finE (T (e - 76) 56) c 0 e [(e - 20, 20), (c, 56), (e - 76, 56)] := by
  unfold ends2
  rw [if_neg hc, if_pos ⟨h, h2⟩, if_neg hc3]
theorem neS {l : List UInt8} {c : List UInt8} (h : (l.toArray.toList != c.toArray.toList) = true) : l ≠ c := by simpa using h
theorem eqS {l : List UInt8} {c : List UInt8} (h : (l.toArray.toList != c.toArray.toList) = false) : l = c := by simpa using h
end
/-- a question stands in the ledger -/
inductive AskAt (size : Int) (news : List (Addr × Obj)) (v : Value) (q : Int × Int) : Prop
  | mk (D : Addr) (V P : Int) (tV tP tc : Tok) (c : Nat) (e : v = .ref D) (hm : (D, ({ cls := .type "tuple", data := .seq #[.int V tV, .int P tP, .int q.2 tc] c } : Obj)) ∈ news) (e2 : V * size + P = q.1) (p0 : 0 ≤ P) (p1 : P < size) : AskAt size news v q
def AskedAre (size : Int) (news : List (Addr × Obj)) : List Value → List (Int × Int) → Prop
  | [], [] => True
  | v :: r, q :: rs => AskAt size news v q ∧ AskedAre size news r rs
  | _, _ => False
/-- the ledger behind the reader's end -/
inductive EndLed (size : Int) (qa rw : Addr) (rest news : List (Addr × Obj)) (row : List Value) (rs : List (Int × Int)) : Prop
  | mk (hs : ∀ q ∈ rest, q ∈ news) (ec : Nat) (hw : (rw, ({ cls := .type "list", data := .seq row.toArray ec } : Obj)) ∈ news) (refs : List Value) (ep : Nat) (hq : (qa, ({ cls := .type "list", data := .seq (List.toArray refs) ep } : Obj)) ∈ news) (ha : AskedAre size news refs rs) : EndLed size qa rw rest news row rs
end
theorem fnK_use {f : Addr} {S : List (Addr × Obj)} {h₀ h : Heap} {L : Addr} {news : List (Addr × Obj)} (hf : FnK f S) (N : News h₀ L h news) (hS : ∀ q ∈ S, q ∈ news) : FnAt f h := hf h₀ h L news N hS
theorem ne_cons {a d : Nat} {o : Obj} {l : List (Addr × Obj)} (h : a ≠ d) (hl : ∀ q ∈ l, q.1 ≠ d) : ∀ q ∈ (((a : Addr), o) :: l), q.1 ≠ (d : Addr) := fun q hq => by
  rcases List.mem_cons.mp hq with rfl | hq
  · exact h
  · exact hl q hq
theorem ltN {a b : Addr} (h : a < b) : @LT.lt Nat instLTNat a b := h
theorem memS {α : Type} {a b : α} {l : List α} (h : a ∈ l) : a ∈ b :: l := .tail _ h
theorem piecesS {news : List (Addr × Obj)} {a : Addr × Obj} {vs : List Value} {ps : List (Int × Int × List UInt8)} (h : PiecesAre news vs ps) : PiecesAre (a :: news) vs ps := piecesAre_mono h fun _ hq => .tail _ hq
theorem askedS {size : Int} {news : List (Addr × Obj)} {D : Addr} {V P o n : Int} {tV tP tc : Tok} {c : Nat} {r : List Value} {rs : List (Int × Int)} (h : (D, ({ cls := .type "tuple", data := .seq #[.int V tV, .int P tP, .int n tc] c } : Obj)) ∈ news) (e : V * size + P = o) (h0 : 0 ≤ P) (h1 : P < size) (hr : AskedAre size news r rs) : AskedAre size news (.ref D :: r) ((o, n) :: rs) :=
  ⟨⟨D, V, P, tV, tP, tc, c, rfl, h, e, h0, h1⟩, hr⟩
theorem asked_mono {z : Int} {news news' : List (Addr × Obj)} (hs : ∀ q ∈ news, q ∈ news') : ∀ {vs : List Value} {rq : List (Int × Int)}, AskedAre z news vs rq → AskedAre z news' vs rq := by
  intro vs
  induction vs with
  | nil =>
    intro rq h
    cases rq with
    | nil => exact h
    | cons a r => exact h
  | cons v r ih =>
    intro rq h
    cases rq with
    | nil => exact h
    | cons a rq =>
      obtain ⟨⟨D, V, P, tV, tP, tc, c, e1, e2, e3, e4, e5⟩, h2⟩ := h
      exact ⟨⟨D, V, P, tV, tP, tc, c, e1, hs _ e2, e3, e4, e5⟩, ih h2⟩
theorem stEn1 {M A Q E s y0 y1 y2 y3 y4 y5 y6 y7 y8 y9 y10 y11 y12} (h : Blk (wpAny M A (execs (Stmt.If (Expr.BoolOp y0 y1 y2) (y3 :: y4 :: y5 :: y6 :: y7) y8 y9 :: y10 :: y11) y12) Q E s)) : wpAny M A (execs (Stmt.If (Expr.BoolOp y0 y1 y2) (y3 :: y4 :: y5 :: y6 :: y7) y8 y9 :: y10 :: y11) y12) Q E s := h
local macro_rules | `(tactic| walk_at "execs cons If") => `(tactic| with_reducible refine stEn1 ?_)
local macro_rules | `(tactic| walk_at "getMethod ref") => `(tactic| refine Blk.out ?_)
local macro_rules | `(tactic| walk_at "call ref") => `(tactic| refine Blk.out ?_)
local macro_rules | `(tactic| walk_at "callWith ref") => `(tactic| refine Blk.out ?_)
local macro_rules | `(tactic| walk_at "call type:OSError") => `(tactic| refine Blk.out ?_)
local macro_rules | `(tactic| walk_at "leaving ref") => `(tactic| refine Blk.out ?_)
local macro_rules | `(tactic| walk_at "call builtin:_struct.unpack") => `(tactic| refine Blk.out ?_)
local macro_rules | `(tactic| walk_at "call builtin:bytes.startswith") => `(tactic| refine Blk.out ?_)
theorem stEn2 {M A Q E s y0 y1} (h : Blk (wpAny M A (call (Value.builtin "len") [Value.bytes y0 y1]) Q E s)) : wpAny M A (call (Value.builtin "len") [Value.bytes y0 y1]) Q E s := h
local macro_rules | `(tactic| walk_at "call builtin:len") => `(tactic| with_reducible refine stEn2 ?_)
theorem stEn3 {M A Q E s y0 y1 y2 y3 y4} (h : Blk (wpAny M A (exec (Stmt.Raise (some (Expr.Call (Expr.Name ("OSError" : Str) y0) [y1] [] y2)) none y3) y4) Q E s)) : wpAny M A (exec (Stmt.Raise (some (Expr.Call (Expr.Name ("OSError" : Str) y0) [y1] [] y2)) none y3) y4) Q E s := h
local macro_rules | `(tactic| walk_at "exec Raise some none") => `(tactic| with_reducible refine stEn3 ?_)
local macro_rules | `(tactic| walk_at "FnAt") => `(tactic| (refine fnK_use (by (first | with_reducible assumption | assumption)) (by k_asm) (by repeat (first | with_reducible assumption | refine subT ?_))))
local macro_rules | `(tactic| walk_at "getMethod bytes") => `(tactic| (refine Unp.starts_method ?_))
section
variable {prog : Program} {w : World} {p : Program} {loose : List Str} {mean : ExcName → Option Value} {mg mb : Str → Option Value}
  {dp un : Nat} {gd : Option (List Code)} {cn : Str} {cs : Scope} {ad : Addr} {ccd : Value} {cl : List (Str × Addr)} {outer : List Env} {A₀ : Around} {base h₀ : Heap} {L : Addr} {m : Str → Option Value} {s : Shared} {Q E : Value → Shared → Prop}
  {dx qa rw fs fr la x : Addr} {td : Value → Obj} {S rest : List (Addr × Obj)} {size bits cut : Int} {vs : Array Value} {lc : Nat} {ps : List (Int × Int × List UInt8)}
theorem end_call {e : Int} {te : Tok} {v0 a0 a1 a2 a3 a4 a5 a6 a7 a8 a9 : Value} {ep ec : Nat}
    (hgs : GetK prog w x dx fs "seek" td S) (hgr : GetK prog w x dx fr "read" td S) (hsk : SeekK prog w p loose mean mg mb dx fs td S) (hrk : ReadK prog w p loose mean mg mb dx qa fr td S size bits cut la vs lc ps)
    (hfs : FnK fs S) (hfr : FnK fr S) (he0 : 0 ≤ e) (he : e < 2 ^ bits.toNat * size) (hS : ∀ q ∈ S, q ∈ rest) (hdx : ∀ q ∈ rest, q.1 ≠ dx) (hqa : ∀ q ∈ rest, q.1 ≠ qa) (hrw : ∀ q ∈ rest, q.1 ≠ rw) (d1 : dx ≠ qa) (d2 : dx ≠ rw) (d3 : qa ≠ rw)
    (hl : (la, ({ cls := .type "list", data := .seq vs lc } : Obj)) ∈ rest) (hp : PiecesAre rest vs.toList ps)
    (H : Here w p loose mean mg mb 12 dp un cs outer A₀ base h₀ L m ((dx, td v0) :: (qa, { cls := .type "list", data := .seq #[] ep }) :: (rw, { cls := .type "list", data := .seq #[a0, a1, a2, a3, a4, a5, a6, a7, a8, a9] ec }) :: rest) s.heap)
    (hrow : ∀ rs news' h' tk', endsE (tapeB size ps) cut e = (0, rs, none) → EndLed size qa rw rest news' [a0, a1, a2, a3, a4, a5, a6, a7, a8, a9] rs → Fr h₀ L h' m → News h₀ L h' news' → Q (.ref rw) { s with heap := h', toks := tk' })
    (hnew : ∀ rs r spot news' h' tk' t0 t1 t2 t3 t4 t5 t6 t9, endsE (tapeB size ps) cut e = (0, rs, some (r, spot)) →
      EndLed size qa rw rest news' [.bytes (r.take 4).toArray t0, .int (Unp.sl r 16 20) t1, .int (Unp.sl r 20 24) t2, .int (Unp.sl r 24 32) t3, .int (Unp.sl r 32 40) t4, .int (Unp.sl r 40 48) t5, .int (Unp.sl r 48 56) t6, a7, a8, .int spot t9] rs →
      Fr h₀ L h' m → News h₀ L h' news' → Q (.ref rw) { s with heap := h', toks := tk' })
    (hbad : ∀ rs news' g h' tk' ex, endsE (tapeB size ps) cut e = (1, rs, none) → EndLed size qa rw rest news' [a0, a1, a2, a3, a4, a5, a6, a7, a8, a9] rs → RaisedSN base g (envX cn cs L ad ccd cl :: outer) ex (.ref 52) news' h' → Fr h₀ L g m → g.UpToSlots h' → E (.ref ex) { s with heap := h', toks := tk' })
    (hshort : ∀ rs news' g h' tk' ex, endsE (tapeB size ps) cut e = (2, rs, none) → EndLed size qa rw rest news' [a0, a1, a2, a3, a4, a5, a6, a7, a8, a9] rs → RaisedSN base g (envX cn cs L ad ccd cl :: outer) ex (.type "OSError") news' h' → Fr h₀ L g m → g.UpToSlots h' → E (.ref ex) { s with heap := h', toks := tk' }) :
    wpAny (model prog w) (ktrTop dp un gd cn cs L ad ccd cl outer) (call (.ref 62) [.ref x, .int e te, .ref rw]) Q E s := by
  obtain ⟨B, F, X, N, T, hk, hdp, hu⟩ := H
  have d1' := neN d1
  have d2' := neN d2
  have d3' := neN d3
  refine wpAny_call ?_
  k_dflt ((refine' code_def ?k1_38 ?k2_38 ?k3_38 ?k4_38 ?k5_38 ?kA_38 ?kF_38 ?kK_38 ?k6_38 ?k7_38 ?k8_38 ?k9_38 ?kB_38 ?_ ?c2_38 ?c3_38 ?c4_38 ?c5_38; (case kA_38 => exact rfl); (case kF_38 => exact rfl); (case kK_38 => first | exact rfl | (first | with_reducible assumption | assumption)); (case k1_38 => k_asm); (case k2_38 => k_asm); (case k3_38 => k_asm); (case k4_38 => k_asm); (case k5_38 => k_asm); (case k6_38 => k_is); (case k7_38 => k_is); (case k8_38 => ktr_room); (case k9_38 => first | exact BindsTo.of_eq rfl | exact binds_K (by k_in) rfl (by k_is) rfl rfl rfl); (case c5_38 => decide); (case kB_38 => exact locs rfl); (case c2_38 => exact rfl); (case c3_38 => exact rfl); (case c4_38 => exact rfl); k_whole; intro g' L' h' FG' F' N' B' X' T'; (try dsimp only); (try k_lift B'); (try k_fold)))
  (repeat' (first | ((with_reducible refine Blk.into ?_); (first | ((with_reducible show wpAny _ _ (getMethod _ _ _) _ _ _); (refine get_use (by (first | with_reducible assumption | assumption)) (by k_asm) (by k_asm) (by ((rename News _ _ _ _ => dN); first | exact dN | exact rot1 dN | exact rot2 dN | exact rot3 dN | exact rot4 dN | exact rot5 dN | exact rot6 dN)) (by repeat (first | with_reducible assumption | refine subT ?_)) ?_); intro tkq; (try dsimp only)) | ((with_reducible show wpAny _ _ (call (Value.ref _) [Value.int _ _]) _ _ _); (k_dflt (refine seek_use (by (first | with_reducible assumption | assumption)) (by exact ⟨by k_asm, by k_asm, by k_asm, by ((rename News _ _ _ _ => dN); first | exact dN | exact rot1 dN | exact rot2 dN | exact rot3 dN | exact rot4 dN | exact rot5 dN | exact rot6 dN), by k_asm, by first | exact rfl | (first | with_reducible assumption | assumption), by (simp only [depth_deeper, depth_in1, ktrTop]; omega), by (simp only [units_deeper, units_in1, ktrTop]; omega)⟩) (by repeat (first | with_reducible assumption | refine subT ?_)) (by repeat (first | with_reducible assumption | refine ne_cons (by ((try dsimp only); first | with_reducible assumption | (symm; with_reducible assumption) | exact Cm.nl1 (by with_reducible assumption) | exact Cm.ng1 (by with_reducible assumption) | exact Cm.nl2 (by with_reducible assumption) | exact Cm.ng2 (by with_reducible assumption) | exact Cm.nl3 (by with_reducible assumption) | exact Cm.ng3 (by with_reducible assumption) | exact Cm.nl4 (by with_reducible assumption) | exact Cm.ng4 (by with_reducible assumption) | exact Cm.nl5 (by with_reducible assumption) | exact Cm.ng5 (by with_reducible assumption) | exact Cm.nl6 (by with_reducible assumption) | exact Cm.ng6 (by with_reducible assumption) | exact Cm.nl7 (by with_reducible assumption) | exact Cm.ng7 (by with_reducible assumption) | exact Cm.nn1 (by with_reducible assumption) | exact Cm.nm1 (by with_reducible assumption) | exact Cm.nn2 (by with_reducible assumption) | exact Cm.nm2 (by with_reducible assumption) | exact Cm.nn3 (by with_reducible assumption) | exact Cm.nm3 (by with_reducible assumption) | exact Cm.nn4 (by with_reducible assumption) | exact Cm.nm4 (by with_reducible assumption) | exact Cm.nn5 (by with_reducible assumption) | exact Cm.nm5 (by with_reducible assumption) | omega)) ?_)) ?_)); intro hq tkq Fq Nq; (try k_sweep)) | (k_dflt (refine callWith_F (by walk_at "FnAt") ?_)) | ((with_reducible show wpAny _ _ (call (Value.builtin "len") [Value.bytes _ _]) _ _ _); (refine len_bytes (by (simp only [List.size_toArray]; omega)) ?_); (try simp only [List.size_toArray])) | ((with_reducible show wpAny _ _ (exec (Stmt.Raise (some (Expr.Call (Expr.Name ("OSError" : Str) _) [_] [] _)) none _) _) _ _ _); (refine OsX.raise_os rfl ?_)) | ((with_reducible show wpAny _ _ (call (Value.type "OSError") _) _ _ _); (refine OsX.call_os ?_; intro eq hq mq; refine And.intro (OsX.Made.at_ mq) ?_)) | ((with_reducible show wpAny _ _ (call (Value.builtin "_struct.unpack") _) _ _ _); ((first | refine Unp.unpack_loc (by omega) (by k_asm) (by k_asm) ?_ | refine Unp.unpack_rec (by omega) (by k_asm) (by k_asm) ?_); intros; (rename ∀ p : Addr × Obj, p ∈ _ → p.1 < _ => l1q); (have l9q := allLt_of l1q); (simp only [AllLt] at l9q); (try clear l1q); (try k_sweep))) | ((with_reducible show wpAny _ _ (call (Value.builtin "bytes.startswith") _) _ _ _); (refine Unp.starts_call (c := [_, _, _, _]) (by (simp only [List.length_cons, List.length_nil]; omega)) ?_)) | ((refine' OsX.leave_os ?k1_39 ?k0_39 ?k2_39 ?k3_39 ?_; (case k0_39 => (first | with_reducible assumption | assumption)); (case k2_39 => (first | with_reducible assumption | assumption)); (case k1_39 => (first | with_reducible assumption | assumption)); (case k3_39 => k_asm); k_whole; intro hq Sq Uq; (try dsimp only at Sq Uq ⊢))) | ((refine' leave_raiseS ?kk1_39 ?kk0_39 ?kk2_39 ?kk3_39 ?_; (case kk0_39 => first | (first | with_reducible assumption | assumption) | exact Heap.MadeExc.of (by (first | with_reducible assumption | assumption))); (case kk2_39 => (first | with_reducible assumption | assumption)); (case kk1_39 => (first | with_reducible assumption | assumption)); (case kk3_39 => k_asm); k_whole; intro hq tq Sq Rq Uq; (try dsimp only at Sq Rq Uq ⊢))))) | (k_unfold; (try dsimp only)) | (k_end; wrow_close) | walk1 | (dsimp only; walk1) | (leave1; (try dsimp only))))
  · refine' hrow [] _ _ _ (ends_low (by omega)) ?led1 ?F1 ?N1
    case N1 => k_asm
    case F1 => k_asm
    case led1 => (refine' ⟨?r_40, _, ?w_40, _, _, ?q_40, ?a_40⟩; (case r_40 => repeat (first | exact fun _ h => h | refine subT ?_)); (case w_40 => repeat (first | with_reducible assumption | exact List.Mem.head _ | refine memS ?_)); (case q_40 => repeat (first | with_reducible assumption | exact List.Mem.head _ | refine memS ?_)); (case a_40 => repeat (first | exact True.intro | refine askedS (by repeat (first | with_reducible assumption | exact List.Mem.head _ | refine memS ?_)) (by first | with_reducible assumption | omega) (by with_reducible assumption) (by with_reducible assumption) ?_)))
  · ((refine Blk.into ?_); k_dflt (refine' read_use ?hk_41 ?H_41 ?hS_41 ?hd_41 ?hdq_41 ?hne_41 ?h0_41 ?h1_41 ?hc_41 ?hc1_41 ?hi_41 ?hl_41 ?hp_41 ?_ ?_); (case hk_41 => (first | with_reducible assumption | assumption)); (case H_41 => exact ⟨by k_asm, by k_asm, by k_asm, by ((rename News _ _ _ _ => dN); first | exact dN | exact roq1 dN | exact roq2 dN | exact roq3 dN | exact roq4 dN | exact roq5 dN | exact roq6 dN), by k_asm, by first | exact rfl | (first | with_reducible assumption | assumption), by (simp only [depth_deeper, depth_in1, ktrTop]; omega), by (simp only [units_deeper, units_in1, ktrTop]; omega)⟩); (case hS_41 => repeat (first | with_reducible assumption | refine subT ?_)); (case hd_41 => repeat (first | with_reducible assumption | refine ne_cons (by ((try dsimp only); first | with_reducible assumption | (symm; with_reducible assumption) | exact Cm.nl1 (by with_reducible assumption) | exact Cm.ng1 (by with_reducible assumption) | exact Cm.nl2 (by with_reducible assumption) | exact Cm.ng2 (by with_reducible assumption) | exact Cm.nl3 (by with_reducible assumption) | exact Cm.ng3 (by with_reducible assumption) | exact Cm.nl4 (by with_reducible assumption) | exact Cm.ng4 (by with_reducible assumption) | exact Cm.nl5 (by with_reducible assumption) | exact Cm.ng5 (by with_reducible assumption) | exact Cm.nl6 (by with_reducible assumption) | exact Cm.ng6 (by with_reducible assumption) | exact Cm.nl7 (by with_reducible assumption) | exact Cm.ng7 (by with_reducible assumption) | exact Cm.nn1 (by with_reducible assumption) | exact Cm.nm1 (by with_reducible assumption) | exact Cm.nn2 (by with_reducible assumption) | exact Cm.nm2 (by with_reducible assumption) | exact Cm.nn3 (by with_reducible assumption) | exact Cm.nm3 (by with_reducible assumption) | exact Cm.nn4 (by with_reducible assumption) | exact Cm.nm4 (by with_reducible assumption) | exact Cm.nn5 (by with_reducible assumption) | exact Cm.nm5 (by with_reducible assumption) | omega)) ?_)); (case hdq_41 => repeat (first | with_reducible assumption | refine ne_cons (by ((try dsimp only); first | with_reducible assumption | (symm; with_reducible assumption) | exact Cm.nl1 (by with_reducible assumption) | exact Cm.ng1 (by with_reducible assumption) | exact Cm.nl2 (by with_reducible assumption) | exact Cm.ng2 (by with_reducible assumption) | exact Cm.nl3 (by with_reducible assumption) | exact Cm.ng3 (by with_reducible assumption) | exact Cm.nl4 (by with_reducible assumption) | exact Cm.ng4 (by with_reducible assumption) | exact Cm.nl5 (by with_reducible assumption) | exact Cm.ng5 (by with_reducible assumption) | exact Cm.nl6 (by with_reducible assumption) | exact Cm.ng6 (by with_reducible assumption) | exact Cm.nl7 (by with_reducible assumption) | exact Cm.ng7 (by with_reducible assumption) | exact Cm.nn1 (by with_reducible assumption) | exact Cm.nm1 (by with_reducible assumption) | exact Cm.nn2 (by with_reducible assumption) | exact Cm.nm2 (by with_reducible assumption) | exact Cm.nn3 (by with_reducible assumption) | exact Cm.nm3 (by with_reducible assumption) | exact Cm.nn4 (by with_reducible assumption) | exact Cm.nm4 (by with_reducible assumption) | exact Cm.nn5 (by with_reducible assumption) | exact Cm.nm5 (by with_reducible assumption) | omega)) ?_)); (case hne_41 => (first | with_reducible assumption | assumption)); (case h0_41 => omega); (case h1_41 => omega); (case hc_41 => decide); (case hc1_41 => decide); (case hi_41 => (simp; done)); (case hl_41 => repeat (first | with_reducible assumption | refine memS ?_)); (case hp_41 => repeat (first | with_reducible assumption | refine piecesS ?_)); (all_goals (intro hcutq Vq Pq Dq tVq tPq tq cq epq hq tkq dq eoq hPq hP1q lrq l1q l2q Fq Nq hdlq; (simp only [Int.reduceToNat, Nat.reduceSub] at hdlq); (simp at hcutq); (try simp only [List.push_toArray, List.nil_append, List.cons_append] at Nq); have lrq := allLt_of lrq; replace l1q := ltN l1q; replace l2q := ltN l2q; (try simp only [AllLt] at lrq); (try k_sweep))))
    · (repeat' (first | ((with_reducible refine Blk.into ?_); (first | ((with_reducible show wpAny _ _ (getMethod _ _ _) _ _ _); (refine get_use (by (first | with_reducible assumption | assumption)) (by k_asm) (by k_asm) (by ((rename News _ _ _ _ => dN); first | exact dN | exact rot1 dN | exact rot2 dN | exact rot3 dN | exact rot4 dN | exact rot5 dN | exact rot6 dN)) (by repeat (first | with_reducible assumption | refine subT ?_)) ?_); intro tkq; (try dsimp only)) | ((with_reducible show wpAny _ _ (call (Value.ref _) [Value.int _ _]) _ _ _); (k_dflt (refine seek_use (by (first | with_reducible assumption | assumption)) (by exact ⟨by k_asm, by k_asm, by k_asm, by ((rename News _ _ _ _ => dN); first | exact dN | exact rot1 dN | exact rot2 dN | exact rot3 dN | exact rot4 dN | exact rot5 dN | exact rot6 dN), by k_asm, by first | exact rfl | (first | with_reducible assumption | assumption), by (simp only [depth_deeper, depth_in1, ktrTop]; omega), by (simp only [units_deeper, units_in1, ktrTop]; omega)⟩) (by repeat (first | with_reducible assumption | refine subT ?_)) (by repeat (first | with_reducible assumption | refine ne_cons (by ((try dsimp only); first | with_reducible assumption | (symm; with_reducible assumption) | exact Cm.nl1 (by with_reducible assumption) | exact Cm.ng1 (by with_reducible assumption) | exact Cm.nl2 (by with_reducible assumption) | exact Cm.ng2 (by with_reducible assumption) | exact Cm.nl3 (by with_reducible assumption) | exact Cm.ng3 (by with_reducible assumption) | exact Cm.nl4 (by with_reducible assumption) | exact Cm.ng4 (by with_reducible assumption) | exact Cm.nl5 (by with_reducible assumption) | exact Cm.ng5 (by with_reducible assumption) | exact Cm.nl6 (by with_reducible assumption) | exact Cm.ng6 (by with_reducible assumption) | exact Cm.nl7 (by with_reducible assumption) | exact Cm.ng7 (by with_reducible assumption) | exact Cm.nn1 (by with_reducible assumption) | exact Cm.nm1 (by with_reducible assumption) | exact Cm.nn2 (by with_reducible assumption) | exact Cm.nm2 (by with_reducible assumption) | exact Cm.nn3 (by with_reducible assumption) | exact Cm.nm3 (by with_reducible assumption) | exact Cm.nn4 (by with_reducible assumption) | exact Cm.nm4 (by with_reducible assumption) | exact Cm.nn5 (by with_reducible assumption) | exact Cm.nm5 (by with_reducible assumption) | omega)) ?_)) ?_)); intro hq tkq Fq Nq; (try k_sweep)) | (k_dflt (refine callWith_F (by walk_at "FnAt") ?_)) | ((with_reducible show wpAny _ _ (call (Value.builtin "len") [Value.bytes _ _]) _ _ _); (refine len_bytes (by (simp only [List.size_toArray]; omega)) ?_); (try simp only [List.size_toArray])) | ((with_reducible show wpAny _ _ (exec (Stmt.Raise (some (Expr.Call (Expr.Name ("OSError" : Str) _) [_] [] _)) none _) _) _ _ _); (refine OsX.raise_os rfl ?_)) | ((with_reducible show wpAny _ _ (call (Value.type "OSError") _) _ _ _); (refine OsX.call_os ?_; intro eq hq mq; refine And.intro (OsX.Made.at_ mq) ?_)) | ((with_reducible show wpAny _ _ (call (Value.builtin "_struct.unpack") _) _ _ _); ((first | refine Unp.unpack_loc (by omega) (by k_asm) (by k_asm) ?_ | refine Unp.unpack_rec (by omega) (by k_asm) (by k_asm) ?_); intros; (rename ∀ p : Addr × Obj, p ∈ _ → p.1 < _ => l1q); (have l9q := allLt_of l1q); (simp only [AllLt] at l9q); (try clear l1q); (try k_sweep))) | ((with_reducible show wpAny _ _ (call (Value.builtin "bytes.startswith") _) _ _ _); (refine Unp.starts_call (c := [_, _, _, _]) (by (simp only [List.length_cons, List.length_nil]; omega)) ?_)) | ((refine' OsX.leave_os ?k1_42 ?k0_42 ?k2_42 ?k3_42 ?_; (case k0_42 => (first | with_reducible assumption | assumption)); (case k2_42 => (first | with_reducible assumption | assumption)); (case k1_42 => (first | with_reducible assumption | assumption)); (case k3_42 => k_asm); k_whole; intro hq Sq Uq; (try dsimp only at Sq Uq ⊢))) | ((refine' leave_raiseS ?kk1_42 ?kk0_42 ?kk2_42 ?kk3_42 ?_; (case kk0_42 => first | (first | with_reducible assumption | assumption) | exact Heap.MadeExc.of (by (first | with_reducible assumption | assumption))); (case kk2_42 => (first | with_reducible assumption | assumption)); (case kk1_42 => (first | with_reducible assumption | assumption)); (case kk3_42 => k_asm); k_whole; intro hq tq Sq Rq Uq; (try dsimp only at Sq Rq Uq ⊢))))) | (k_unfold; (try dsimp only)) | (k_end; wrow_close) | walk1 | (dsimp only; walk1) | (leave1; (try dsimp only))))
      · rename Fr h₀ L _ m => FG
        refine' hshort [(e - 20, 20)] _ _ _ _ _ (ends_short1 (by omega) (by omega)) ?led2 ?R2 FG ?U2
        case U2 => (first | with_reducible assumption | assumption)
        case R2 => (first | with_reducible assumption | assumption)
        case led2 => (refine' ⟨?r_43, _, ?w_43, _, _, ?q_43, ?a_43⟩; (case r_43 => repeat (first | exact fun _ h => h | refine subT ?_)); (case w_43 => repeat (first | with_reducible assumption | exact List.Mem.head _ | refine memS ?_)); (case q_43 => repeat (first | with_reducible assumption | exact List.Mem.head _ | refine memS ?_)); (case a_43 => repeat (first | exact True.intro | refine askedS (by repeat (first | with_reducible assumption | exact List.Mem.head _ | refine memS ?_)) (by first | with_reducible assumption | omega) (by with_reducible assumption) (by with_reducible assumption) ?_)))
      · exfalso; omega
    · intro hdd
      (repeat' (first | ((with_reducible refine Blk.into ?_); (first | ((with_reducible show wpAny _ _ (getMethod _ _ _) _ _ _); (refine get_use (by (first | with_reducible assumption | assumption)) (by k_asm) (by k_asm) (by ((rename News _ _ _ _ => dN); first | exact dN | exact rot1 dN | exact rot2 dN | exact rot3 dN | exact rot4 dN | exact rot5 dN | exact rot6 dN)) (by repeat (first | with_reducible assumption | refine subT ?_)) ?_); intro tkq; (try dsimp only)) | ((with_reducible show wpAny _ _ (call (Value.ref _) [Value.int _ _]) _ _ _); (k_dflt (refine seek_use (by (first | with_reducible assumption | assumption)) (by exact ⟨by k_asm, by k_asm, by k_asm, by ((rename News _ _ _ _ => dN); first | exact dN | exact rot1 dN | exact rot2 dN | exact rot3 dN | exact rot4 dN | exact rot5 dN | exact rot6 dN), by k_asm, by first | exact rfl | (first | with_reducible assumption | assumption), by (simp only [depth_deeper, depth_in1, ktrTop]; omega), by (simp only [units_deeper, units_in1, ktrTop]; omega)⟩) (by repeat (first | with_reducible assumption | refine subT ?_)) (by repeat (first | with_reducible assumption | refine ne_cons (by ((try dsimp only); first | with_reducible assumption | (symm; with_reducible assumption) | exact Cm.nl1 (by with_reducible assumption) | exact Cm.ng1 (by with_reducible assumption) | exact Cm.nl2 (by with_reducible assumption) | exact Cm.ng2 (by with_reducible assumption) | exact Cm.nl3 (by with_reducible assumption) | exact Cm.ng3 (by with_reducible assumption) | exact Cm.nl4 (by with_reducible assumption) | exact Cm.ng4 (by with_reducible assumption) | exact Cm.nl5 (by with_reducible assumption) | exact Cm.ng5 (by with_reducible assumption) | exact Cm.nl6 (by with_reducible assumption) | exact Cm.ng6 (by with_reducible assumption) | exact Cm.nl7 (by with_reducible assumption) | exact Cm.ng7 (by with_reducible assumption) | exact Cm.nn1 (by with_reducible assumption) | exact Cm.nm1 (by with_reducible assumption) | exact Cm.nn2 (by with_reducible assumption) | exact Cm.nm2 (by with_reducible assumption) | exact Cm.nn3 (by with_reducible assumption) | exact Cm.nm3 (by with_reducible assumption) | exact Cm.nn4 (by with_reducible assumption) | exact Cm.nm4 (by with_reducible assumption) | exact Cm.nn5 (by with_reducible assumption) | exact Cm.nm5 (by with_reducible assumption) | omega)) ?_)) ?_)); intro hq tkq Fq Nq; (try k_sweep)) | (k_dflt (refine callWith_F (by walk_at "FnAt") ?_)) | ((with_reducible show wpAny _ _ (call (Value.builtin "len") [Value.bytes _ _]) _ _ _); (refine len_bytes (by (simp only [List.size_toArray]; omega)) ?_); (try simp only [List.size_toArray])) | ((with_reducible show wpAny _ _ (exec (Stmt.Raise (some (Expr.Call (Expr.Name ("OSError" : Str) _) [_] [] _)) none _) _) _ _ _); (refine OsX.raise_os rfl ?_)) | ((with_reducible show wpAny _ _ (call (Value.type "OSError") _) _ _ _); (refine OsX.call_os ?_; intro eq hq mq; refine And.intro (OsX.Made.at_ mq) ?_)) | ((with_reducible show wpAny _ _ (call (Value.builtin "_struct.unpack") _) _ _ _); ((first | refine Unp.unpack_loc (by omega) (by k_asm) (by k_asm) ?_ | refine Unp.unpack_rec (by omega) (by k_asm) (by k_asm) ?_); intros; (rename ∀ p : Addr × Obj, p ∈ _ → p.1 < _ => l1q); (have l9q := allLt_of l1q); (simp only [AllLt] at l9q); (try clear l1q); (try k_sweep))) | ((with_reducible show wpAny _ _ (call (Value.builtin "bytes.startswith") _) _ _ _); (refine Unp.starts_call (c := [_, _, _, _]) (by (simp only [List.length_cons, List.length_nil]; omega)) ?_)) | ((refine' OsX.leave_os ?k1_44 ?k0_44 ?k2_44 ?k3_44 ?_; (case k0_44 => (first | with_reducible assumption | assumption)); (case k2_44 => (first | with_reducible assumption | assumption)); (case k1_44 => (first | with_reducible assumption | assumption)); (case k3_44 => k_asm); k_whole; intro hq Sq Uq; (try dsimp only at Sq Uq ⊢))) | ((refine' leave_raiseS ?kk1_44 ?kk0_44 ?kk2_44 ?kk3_44 ?_; (case kk0_44 => first | (first | with_reducible assumption | assumption) | exact Heap.MadeExc.of (by (first | with_reducible assumption | assumption))); (case kk2_44 => (first | with_reducible assumption | assumption)); (case kk1_44 => (first | with_reducible assumption | assumption)); (case kk3_44 => k_asm); k_whole; intro hq tq Sq Rq Uq; (try dsimp only at Sq Rq Uq ⊢))))) | (k_unfold; (try dsimp only)) | (k_end; wrow_close) | walk1 | (dsimp only; walk1) | (leave1; (try dsimp only))))
      · omega
      · subst hdd
        refine' hrow [(e - 20, 20)] _ _ _ (ends_nosig (by omega) (by omega) (neS (by (first | with_reducible assumption | assumption)))) ?led3 ?F3 ?N3
        case N3 => k_asm
        case F3 => k_asm
        case led3 => (refine' ⟨?r_45, _, ?w_45, _, _, ?q_45, ?a_45⟩; (case r_45 => repeat (first | exact fun _ h => h | refine subT ?_)); (case w_45 => repeat (first | with_reducible assumption | exact List.Mem.head _ | refine memS ?_)); (case q_45 => repeat (first | with_reducible assumption | exact List.Mem.head _ | refine memS ?_)); (case a_45 => repeat (first | exact True.intro | refine askedS (by repeat (first | with_reducible assumption | exact List.Mem.head _ | refine memS ?_)) (by first | with_reducible assumption | omega) (by with_reducible assumption) (by with_reducible assumption) ?_)))
      · subst hdd
        rename Fr h₀ L _ m => FG
        refine' hbad [(e - 20, 20)] _ _ _ _ _ (ends_disk (by omega) (by omega) (eqS (by (first | with_reducible assumption | assumption))) (by omega)) ?led4 ?R4 FG ?U4
        case U4 => (first | with_reducible assumption | assumption)
        case R4 => exact RaisedS.toSN (by (first | with_reducible assumption | assumption))
        case led4 => (refine' ⟨?r_46, _, ?w_46, _, _, ?q_46, ?a_46⟩; (case r_46 => repeat (first | exact fun _ h => h | refine subT ?_)); (case w_46 => repeat (first | with_reducible assumption | exact List.Mem.head _ | refine memS ?_)); (case q_46 => repeat (first | with_reducible assumption | exact List.Mem.head _ | refine memS ?_)); (case a_46 => repeat (first | exact True.intro | refine askedS (by repeat (first | with_reducible assumption | exact List.Mem.head _ | refine memS ?_)) (by first | with_reducible assumption | omega) (by with_reducible assumption) (by with_reducible assumption) ?_)))
      · subst hdd
        rename Fr h₀ L _ m => FG
        refine' hbad [(e - 20, 20)] _ _ _ _ _ (ends_disk (by omega) (by omega) (eqS (by (first | with_reducible assumption | assumption))) (by omega)) ?led5 ?R5 FG ?U5
        case U5 => (first | with_reducible assumption | assumption)
        case R5 => exact RaisedS.toSN (by (first | with_reducible assumption | assumption))
        case led5 => (refine' ⟨?r_47, _, ?w_47, _, _, ?q_47, ?a_47⟩; (case r_47 => repeat (first | exact fun _ h => h | refine subT ?_)); (case w_47 => repeat (first | with_reducible assumption | exact List.Mem.head _ | refine memS ?_)); (case q_47 => repeat (first | with_reducible assumption | exact List.Mem.head _ | refine memS ?_)); (case a_47 => repeat (first | exact True.intro | refine askedS (by repeat (first | with_reducible assumption | exact List.Mem.head _ | refine memS ?_)) (by first | with_reducible assumption | omega) (by with_reducible assumption) (by with_reducible assumption) ?_)))
      · subst hdd
        rename Fr h₀ L _ m => FG
        refine' hbad [(e - 20, 20)] _ _ _ _ _ (ends_far (by omega) (by omega) (eqS (by (first | with_reducible assumption | assumption))) (by omega) (by omega) (by omega)) ?led6 ?R6 FG ?U6
        case U6 => (first | with_reducible assumption | assumption)
        case R6 => exact RaisedS.toSN (by (first | with_reducible assumption | assumption))
        case led6 => (refine' ⟨?r_48, _, ?w_48, _, _, ?q_48, ?a_48⟩; (case r_48 => repeat (first | exact fun _ h => h | refine subT ?_)); (case w_48 => repeat (first | with_reducible assumption | exact List.Mem.head _ | refine memS ?_)); (case q_48 => repeat (first | with_reducible assumption | exact List.Mem.head _ | refine memS ?_)); (case a_48 => repeat (first | exact True.intro | refine askedS (by repeat (first | with_reducible assumption | exact List.Mem.head _ | refine memS ?_)) (by first | with_reducible assumption | omega) (by with_reducible assumption) (by with_reducible assumption) ?_)))
      · have hs1 : _ = ([80, 75, 6, 7] : List UInt8) := eqS (by (first | with_reducible assumption | assumption))
        subst hdd
        have on := ends_on (T := tapeB size ps) (cut := cut) (e := e) (by omega) (by omega) hs1 (by omega) (by omega) (by omega)
        have hc0 : 0 ≤ Unp.sl (tapeB size ps (e - 20) 20) 8 16 := Int.natCast_nonneg _
        generalize hc : Unp.sl (tapeB size ps (e - 20) 20) 8 16 = c at *
        ((refine Blk.into ?_); k_dflt (refine' read_use ?hk_49 ?H_49 ?hS_49 ?hd_49 ?hdq_49 ?hne_49 ?h0_49 ?h1_49 ?hc_49 ?hc1_49 ?hi_49 ?hl_49 ?hp_49 ?_ ?_); (case hk_49 => (first | with_reducible assumption | assumption)); (case H_49 => exact ⟨by k_asm, by k_asm, by k_asm, by ((rename News _ _ _ _ => dN); first | exact dN | exact roq1 dN | exact roq2 dN | exact roq3 dN | exact roq4 dN | exact roq5 dN | exact roq6 dN), by k_asm, by first | exact rfl | (first | with_reducible assumption | assumption), by (simp only [depth_deeper, depth_in1, ktrTop]; omega), by (simp only [units_deeper, units_in1, ktrTop]; omega)⟩); (case hS_49 => repeat (first | with_reducible assumption | refine subT ?_)); (case hd_49 => repeat (first | with_reducible assumption | refine ne_cons (by ((try dsimp only); first | with_reducible assumption | (symm; with_reducible assumption) | exact Cm.nl1 (by with_reducible assumption) | exact Cm.ng1 (by with_reducible assumption) | exact Cm.nl2 (by with_reducible assumption) | exact Cm.ng2 (by with_reducible assumption) | exact Cm.nl3 (by with_reducible assumption) | exact Cm.ng3 (by with_reducible assumption) | exact Cm.nl4 (by with_reducible assumption) | exact Cm.ng4 (by with_reducible assumption) | exact Cm.nl5 (by with_reducible assumption) | exact Cm.ng5 (by with_reducible assumption) | exact Cm.nl6 (by with_reducible assumption) | exact Cm.ng6 (by with_reducible assumption) | exact Cm.nl7 (by with_reducible assumption) | exact Cm.ng7 (by with_reducible assumption) | exact Cm.nn1 (by with_reducible assumption) | exact Cm.nm1 (by with_reducible assumption) | exact Cm.nn2 (by with_reducible assumption) | exact Cm.nm2 (by with_reducible assumption) | exact Cm.nn3 (by with_reducible assumption) | exact Cm.nm3 (by with_reducible assumption) | exact Cm.nn4 (by with_reducible assumption) | exact Cm.nm4 (by with_reducible assumption) | exact Cm.nn5 (by with_reducible assumption) | exact Cm.nm5 (by with_reducible assumption) | omega)) ?_)); (case hdq_49 => repeat (first | with_reducible assumption | refine ne_cons (by ((try dsimp only); first | with_reducible assumption | (symm; with_reducible assumption) | exact Cm.nl1 (by with_reducible assumption) | exact Cm.ng1 (by with_reducible assumption) | exact Cm.nl2 (by with_reducible assumption) | exact Cm.ng2 (by with_reducible assumption) | exact Cm.nl3 (by with_reducible assumption) | exact Cm.ng3 (by with_reducible assumption) | exact Cm.nl4 (by with_reducible assumption) | exact Cm.ng4 (by with_reducible assumption) | exact Cm.nl5 (by with_reducible assumption) | exact Cm.ng5 (by with_reducible assumption) | exact Cm.nl6 (by with_reducible assumption) | exact Cm.ng6 (by with_reducible assumption) | exact Cm.nl7 (by with_reducible assumption) | exact Cm.ng7 (by with_reducible assumption) | exact Cm.nn1 (by with_reducible assumption) | exact Cm.nm1 (by with_reducible assumption) | exact Cm.nn2 (by with_reducible assumption) | exact Cm.nm2 (by with_reducible assumption) | exact Cm.nn3 (by with_reducible assumption) | exact Cm.nm3 (by with_reducible assumption) | exact Cm.nn4 (by with_reducible assumption) | exact Cm.nm4 (by with_reducible assumption) | exact Cm.nn5 (by with_reducible assumption) | exact Cm.nm5 (by with_reducible assumption) | omega)) ?_)); (case hne_49 => (first | with_reducible assumption | assumption)); (case h0_49 => omega); (case h1_49 => omega); (case hc_49 => decide); (case hc1_49 => decide); (case hi_49 => (simp; done)); (case hl_49 => repeat (first | with_reducible assumption | refine memS ?_)); (case hp_49 => repeat (first | with_reducible assumption | refine piecesS ?_)); (all_goals (intro hcutq Vq Pq Dq tVq tPq tq cq epq hq tkq dq eoq hPq hP1q lrq l1q l2q Fq Nq hdlq; (simp only [Int.reduceToNat, Nat.reduceSub] at hdlq); (simp at hcutq); (try simp only [List.push_toArray, List.nil_append, List.cons_append] at Nq); have lrq := allLt_of lrq; replace l1q := ltN l1q; replace l2q := ltN l2q; (try simp only [AllLt] at lrq); (try k_sweep))))
        · (repeat' (first | ((with_reducible refine Blk.into ?_); (first | ((with_reducible show wpAny _ _ (getMethod _ _ _) _ _ _); (refine get_use (by (first | with_reducible assumption | assumption)) (by k_asm) (by k_asm) (by ((rename News _ _ _ _ => dN); first | exact dN | exact rot1 dN | exact rot2 dN | exact rot3 dN | exact rot4 dN | exact rot5 dN | exact rot6 dN)) (by repeat (first | with_reducible assumption | refine subT ?_)) ?_); intro tkq; (try dsimp only)) | ((with_reducible show wpAny _ _ (call (Value.ref _) [Value.int _ _]) _ _ _); (k_dflt (refine seek_use (by (first | with_reducible assumption | assumption)) (by exact ⟨by k_asm, by k_asm, by k_asm, by ((rename News _ _ _ _ => dN); first | exact dN | exact rot1 dN | exact rot2 dN | exact rot3 dN | exact rot4 dN | exact rot5 dN | exact rot6 dN), by k_asm, by first | exact rfl | (first | with_reducible assumption | assumption), by (simp only [depth_deeper, depth_in1, ktrTop]; omega), by (simp only [units_deeper, units_in1, ktrTop]; omega)⟩) (by repeat (first | with_reducible assumption | refine subT ?_)) (by repeat (first | with_reducible assumption | refine ne_cons (by ((try dsimp only); first | with_reducible assumption | (symm; with_reducible assumption) | exact Cm.nl1 (by with_reducible assumption) | exact Cm.ng1 (by with_reducible assumption) | exact Cm.nl2 (by with_reducible assumption) | exact Cm.ng2 (by with_reducible assumption) | exact Cm.nl3 (by with_reducible assumption) | exact Cm.ng3 (by with_reducible assumption) | exact Cm.nl4 (by with_reducible assumption) | exact Cm.ng4 (by with_reducible assumption) | exact Cm.nl5 (by with_reducible assumption) | exact Cm.ng5 (by with_reducible assumption) | exact Cm.nl6 (by with_reducible assumption) | exact Cm.ng6 (by with_reducible assumption) | exact Cm.nl7 (by with_reducible assumption) | exact Cm.ng7 (by with_reducible assumption) | exact Cm.nn1 (by with_reducible assumption) | exact Cm.nm1 (by with_reducible assumption) | exact Cm.nn2 (by with_reducible assumption) | exact Cm.nm2 (by with_reducible assumption) | exact Cm.nn3 (by with_reducible assumption) | exact Cm.nm3 (by with_reducible assumption) | exact Cm.nn4 (by with_reducible assumption) | exact Cm.nm4 (by with_reducible assumption) | exact Cm.nn5 (by with_reducible assumption) | exact Cm.nm5 (by with_reducible assumption) | omega)) ?_)) ?_)); intro hq tkq Fq Nq; (try k_sweep)) | (k_dflt (refine callWith_F (by walk_at "FnAt") ?_)) | ((with_reducible show wpAny _ _ (call (Value.builtin "len") [Value.bytes _ _]) _ _ _); (refine len_bytes (by (simp only [List.size_toArray]; omega)) ?_); (try simp only [List.size_toArray])) | ((with_reducible show wpAny _ _ (exec (Stmt.Raise (some (Expr.Call (Expr.Name ("OSError" : Str) _) [_] [] _)) none _) _) _ _ _); (refine OsX.raise_os rfl ?_)) | ((with_reducible show wpAny _ _ (call (Value.type "OSError") _) _ _ _); (refine OsX.call_os ?_; intro eq hq mq; refine And.intro (OsX.Made.at_ mq) ?_)) | ((with_reducible show wpAny _ _ (call (Value.builtin "_struct.unpack") _) _ _ _); ((first | refine Unp.unpack_loc (by omega) (by k_asm) (by k_asm) ?_ | refine Unp.unpack_rec (by omega) (by k_asm) (by k_asm) ?_); intros; (rename ∀ p : Addr × Obj, p ∈ _ → p.1 < _ => l1q); (have l9q := allLt_of l1q); (simp only [AllLt] at l9q); (try clear l1q); (try k_sweep))) | ((with_reducible show wpAny _ _ (call (Value.builtin "bytes.startswith") _) _ _ _); (refine Unp.starts_call (c := [_, _, _, _]) (by (simp only [List.length_cons, List.length_nil]; omega)) ?_)) | ((refine' OsX.leave_os ?k1_50 ?k0_50 ?k2_50 ?k3_50 ?_; (case k0_50 => (first | with_reducible assumption | assumption)); (case k2_50 => (first | with_reducible assumption | assumption)); (case k1_50 => (first | with_reducible assumption | assumption)); (case k3_50 => k_asm); k_whole; intro hq Sq Uq; (try dsimp only at Sq Uq ⊢))) | ((refine' leave_raiseS ?kk1_50 ?kk0_50 ?kk2_50 ?kk3_50 ?_; (case kk0_50 => first | (first | with_reducible assumption | assumption) | exact Heap.MadeExc.of (by (first | with_reducible assumption | assumption))); (case kk2_50 => (first | with_reducible assumption | assumption)); (case kk1_50 => (first | with_reducible assumption | assumption)); (case kk3_50 => k_asm); k_whole; intro hq tq Sq Rq Uq; (try dsimp only at Sq Rq Uq ⊢))))) | (k_unfold; (try dsimp only)) | (k_end; wrow_close) | walk1 | (dsimp only; walk1) | (leave1; (try dsimp only))))
          · rename Fr h₀ L _ m => FG
            refine' hshort [(e - 20, 20), (c, 56)] _ _ _ _ _ ?eq101 ?led101 ?R101 FG ?U101
            case U101 => (first | with_reducible assumption | assumption)
            case R101 => (first | with_reducible assumption | assumption)
            case led101 => (refine' ⟨?r_51, _, ?w_51, _, _, ?q_51, ?a_51⟩; (case r_51 => repeat (first | exact fun _ h => h | refine subT ?_)); (case w_51 => repeat (first | with_reducible assumption | exact List.Mem.head _ | refine memS ?_)); (case q_51 => repeat (first | with_reducible assumption | exact List.Mem.head _ | refine memS ?_)); (case a_51 => repeat (first | exact True.intro | refine askedS (by repeat (first | with_reducible assumption | exact List.Mem.head _ | refine memS ?_)) (by first | with_reducible assumption | omega) (by with_reducible assumption) (by with_reducible assumption) ?_)))
            case eq101 => exact on.trans (ends2_short (by omega))
          · exfalso; omega
        · intro hdd
          (repeat' (first | ((with_reducible refine Blk.into ?_); (first | ((with_reducible show wpAny _ _ (getMethod _ _ _) _ _ _); (refine get_use (by (first | with_reducible assumption | assumption)) (by k_asm) (by k_asm) (by ((rename News _ _ _ _ => dN); first | exact dN | exact rot1 dN | exact rot2 dN | exact rot3 dN | exact rot4 dN | exact rot5 dN | exact rot6 dN)) (by repeat (first | with_reducible assumption | refine subT ?_)) ?_); intro tkq; (try dsimp only)) | ((with_reducible show wpAny _ _ (call (Value.ref _) [Value.int _ _]) _ _ _); (k_dflt (refine seek_use (by (first | with_reducible assumption | assumption)) (by exact ⟨by k_asm, by k_asm, by k_asm, by ((rename News _ _ _ _ => dN); first | exact dN | exact rot1 dN | exact rot2 dN | exact rot3 dN | exact rot4 dN | exact rot5 dN | exact rot6 dN), by k_asm, by first | exact rfl | (first | with_reducible assumption | assumption), by (simp only [depth_deeper, depth_in1, ktrTop]; omega), by (simp only [units_deeper, units_in1, ktrTop]; omega)⟩) (by repeat (first | with_reducible assumption | refine subT ?_)) (by repeat (first | with_reducible assumption | refine ne_cons (by ((try dsimp only); first | with_reducible assumption | (symm; with_reducible assumption) | exact Cm.nl1 (by with_reducible assumption) | exact Cm.ng1 (by with_reducible assumption) | exact Cm.nl2 (by with_reducible assumption) | exact Cm.ng2 (by with_reducible assumption) | exact Cm.nl3 (by with_reducible assumption) | exact Cm.ng3 (by with_reducible assumption) | exact Cm.nl4 (by with_reducible assumption) | exact Cm.ng4 (by with_reducible assumption) | exact Cm.nl5 (by with_reducible assumption) | exact Cm.ng5 (by with_reducible assumption) | exact Cm.nl6 (by with_reducible assumption) | exact Cm.ng6 (by with_reducible assumption) | exact Cm.nl7 (by with_reducible assumption) | exact Cm.ng7 (by with_reducible assumption) | exact Cm.nn1 (by with_reducible assumption) | exact Cm.nm1 (by with_reducible assumption) | exact Cm.nn2 (by with_reducible assumption) | exact Cm.nm2 (by with_reducible assumption) | exact Cm.nn3 (by with_reducible assumption) | exact Cm.nm3 (by with_reducible assumption) | exact Cm.nn4 (by with_reducible assumption) | exact Cm.nm4 (by with_reducible assumption) | exact Cm.nn5 (by with_reducible assumption) | exact Cm.nm5 (by with_reducible assumption) | omega)) ?_)) ?_)); intro hq tkq Fq Nq; (try k_sweep)) | (k_dflt (refine callWith_F (by walk_at "FnAt") ?_)) | ((with_reducible show wpAny _ _ (call (Value.builtin "len") [Value.bytes _ _]) _ _ _); (refine len_bytes (by (simp only [List.size_toArray]; omega)) ?_); (try simp only [List.size_toArray])) | ((with_reducible show wpAny _ _ (exec (Stmt.Raise (some (Expr.Call (Expr.Name ("OSError" : Str) _) [_] [] _)) none _) _) _ _ _); (refine OsX.raise_os rfl ?_)) | ((with_reducible show wpAny _ _ (call (Value.type "OSError") _) _ _ _); (refine OsX.call_os ?_; intro eq hq mq; refine And.intro (OsX.Made.at_ mq) ?_)) | ((with_reducible show wpAny _ _ (call (Value.builtin "_struct.unpack") _) _ _ _); ((first | refine Unp.unpack_loc (by omega) (by k_asm) (by k_asm) ?_ | refine Unp.unpack_rec (by omega) (by k_asm) (by k_asm) ?_); intros; (rename ∀ p : Addr × Obj, p ∈ _ → p.1 < _ => l1q); (have l9q := allLt_of l1q); (simp only [AllLt] at l9q); (try clear l1q); (try k_sweep))) | ((with_reducible show wpAny _ _ (call (Value.builtin "bytes.startswith") _) _ _ _); (refine Unp.starts_call (c := [_, _, _, _]) (by (simp only [List.length_cons, List.length_nil]; omega)) ?_)) | ((refine' OsX.leave_os ?k1_52 ?k0_52 ?k2_52 ?k3_52 ?_; (case k0_52 => (first | with_reducible assumption | assumption)); (case k2_52 => (first | with_reducible assumption | assumption)); (case k1_52 => (first | with_reducible assumption | assumption)); (case k3_52 => k_asm); k_whole; intro hq Sq Uq; (try dsimp only at Sq Uq ⊢))) | ((refine' leave_raiseS ?kk1_52 ?kk0_52 ?kk2_52 ?kk3_52 ?_; (case kk0_52 => first | (first | with_reducible assumption | assumption) | exact Heap.MadeExc.of (by (first | with_reducible assumption | assumption))); (case kk2_52 => (first | with_reducible assumption | assumption)); (case kk1_52 => (first | with_reducible assumption | assumption)); (case kk3_52 => k_asm); k_whole; intro hq tq Sq Rq Uq; (try dsimp only at Sq Rq Uq ⊢))))) | (k_unfold; (try dsimp only)) | (k_end; wrow_close) | walk1 | (dsimp only; walk1) | (leave1; (try dsimp only))))
          · omega
          · subst hdd
            refine Blk.into ?_
            let Jc : Heap → Prop := fun h' => ∀ G : Prop, (∀ (m' : Str → Option Value) (d : List UInt8) (td to tr tx : Tok) (of xs : Int) (nx : List (Addr × Obj)) (rs : List (Int × Int)) (refs : List Value) (ep : Nat), Fr g' L' h' m' → News g' L' h' ((rw, { cls := .type "list", data := .seq #[a0, a1, a2, a3, a4, a5, a6, a7, a8, a9] ec }) :: nx) → NmAre m' [("endrec", .ref rw), ("data", .bytes d.toArray td), ("offset", .int of to), ("reloff", .int c tr), ("extrasz", .int xs tx)] → d.length = 56 → of = e - 76 → endsE (tapeB size ps) cut e = finE d c xs e rs → (∀ q ∈ rest, q ∈ nx) → (∀ q ∈ nx, q.1 ≠ rw) → (qa, ({ cls := .type "list", data := .seq (List.toArray refs) ep } : Obj)) ∈ nx → AskedAre size nx refs rs → G) → G
            with_reducible refine Jn.ckpt 1 Jc ?_ ?_
            · dsimp only [List.take]
              k_fold
              (repeat' (first | ((with_reducible refine Blk.into ?_); (first | ((with_reducible show wpAny _ _ (getMethod _ _ _) _ _ _); (refine get_use (by (first | with_reducible assumption | assumption)) (by k_asm) (by k_asm) (by ((rename News _ _ _ _ => dN); first | exact dN | exact rot1 dN | exact rot2 dN | exact rot3 dN | exact rot4 dN | exact rot5 dN | exact rot6 dN)) (by repeat (first | with_reducible assumption | refine subT ?_)) ?_); intro tkq; (try dsimp only)) | ((with_reducible show wpAny _ _ (call (Value.ref _) [Value.int _ _]) _ _ _); (k_dflt (refine seek_use (by (first | with_reducible assumption | assumption)) (by exact ⟨by k_asm, by k_asm, by k_asm, by ((rename News _ _ _ _ => dN); first | exact dN | exact rot1 dN | exact rot2 dN | exact rot3 dN | exact rot4 dN | exact rot5 dN | exact rot6 dN), by k_asm, by first | exact rfl | (first | with_reducible assumption | assumption), by (simp only [depth_deeper, depth_in1, ktrTop]; omega), by (simp only [units_deeper, units_in1, ktrTop]; omega)⟩) (by repeat (first | with_reducible assumption | refine subT ?_)) (by repeat (first | with_reducible assumption | refine ne_cons (by ((try dsimp only); first | with_reducible assumption | (symm; with_reducible assumption) | exact Cm.nl1 (by with_reducible assumption) | exact Cm.ng1 (by with_reducible assumption) | exact Cm.nl2 (by with_reducible assumption) | exact Cm.ng2 (by with_reducible assumption) | exact Cm.nl3 (by with_reducible assumption) | exact Cm.ng3 (by with_reducible assumption) | exact Cm.nl4 (by with_reducible assumption) | exact Cm.ng4 (by with_reducible assumption) | exact Cm.nl5 (by with_reducible assumption) | exact Cm.ng5 (by with_reducible assumption) | exact Cm.nl6 (by with_reducible assumption) | exact Cm.ng6 (by with_reducible assumption) | exact Cm.nl7 (by with_reducible assumption) | exact Cm.ng7 (by with_reducible assumption) | exact Cm.nn1 (by with_reducible assumption) | exact Cm.nm1 (by with_reducible assumption) | exact Cm.nn2 (by with_reducible assumption) | exact Cm.nm2 (by with_reducible assumption) | exact Cm.nn3 (by with_reducible assumption) | exact Cm.nm3 (by with_reducible assumption) | exact Cm.nn4 (by with_reducible assumption) | exact Cm.nm4 (by with_reducible assumption) | exact Cm.nn5 (by with_reducible assumption) | exact Cm.nm5 (by with_reducible assumption) | omega)) ?_)) ?_)); intro hq tkq Fq Nq; (try k_sweep)) | (k_dflt (refine callWith_F (by walk_at "FnAt") ?_)) | ((with_reducible show wpAny _ _ (call (Value.builtin "len") [Value.bytes _ _]) _ _ _); (refine len_bytes (by (simp only [List.size_toArray]; omega)) ?_); (try simp only [List.size_toArray])) | ((with_reducible show wpAny _ _ (exec (Stmt.Raise (some (Expr.Call (Expr.Name ("OSError" : Str) _) [_] [] _)) none _) _) _ _ _); (refine OsX.raise_os rfl ?_)) | ((with_reducible show wpAny _ _ (call (Value.type "OSError") _) _ _ _); (refine OsX.call_os ?_; intro eq hq mq; refine And.intro (OsX.Made.at_ mq) ?_)) | ((with_reducible show wpAny _ _ (call (Value.builtin "_struct.unpack") _) _ _ _); ((first | refine Unp.unpack_loc (by omega) (by k_asm) (by k_asm) ?_ | refine Unp.unpack_rec (by omega) (by k_asm) (by k_asm) ?_); intros; (rename ∀ p : Addr × Obj, p ∈ _ → p.1 < _ => l1q); (have l9q := allLt_of l1q); (simp only [AllLt] at l9q); (try clear l1q); (try k_sweep))) | ((with_reducible show wpAny _ _ (call (Value.builtin "bytes.startswith") _) _ _ _); (refine Unp.starts_call (c := [_, _, _, _]) (by (simp only [List.length_cons, List.length_nil]; omega)) ?_)) | ((refine' OsX.leave_os ?k1_53 ?k0_53 ?k2_53 ?k3_53 ?_; (case k0_53 => (first | with_reducible assumption | assumption)); (case k2_53 => (first | with_reducible assumption | assumption)); (case k1_53 => (first | with_reducible assumption | assumption)); (case k3_53 => k_asm); k_whole; intro hq Sq Uq; (try dsimp only at Sq Uq ⊢))) | ((refine' leave_raiseS ?kk1_53 ?kk0_53 ?kk2_53 ?kk3_53 ?_; (case kk0_53 => first | (first | with_reducible assumption | assumption) | exact Heap.MadeExc.of (by (first | with_reducible assumption | assumption))); (case kk2_53 => (first | with_reducible assumption | assumption)); (case kk1_53 => (first | with_reducible assumption | assumption)); (case kk3_53 => k_asm); k_whole; intro hq tq Sq Rq Uq; (try dsimp only at Sq Rq Uq ⊢))))) | (k_unfold; (try dsimp only)) | (k_end; wrow_close) | walk1 | (dsimp only; walk1) | (leave1; (try dsimp only))))
              · (refine ⟨_, _, rfl, ?_⟩; intro G k; exact k _ _ _ _ _ _ _ _ _ _ _ _ (by k_asm) (by ((rename News _ _ _ _ => dN); first | exact dN | exact rot1 dN | exact rot2 dN | exact rot3 dN | exact rot4 dN | exact rot5 dN | exact rot6 dN)) (by repeat (first | exact nm_nil | refine nm_cons (by first | with_unfolding_all rfl | (rw [← hc]; with_unfolding_all rfl)) ?_)) (by (first | with_reducible assumption | omega)) (by omega) (by rw [hc, show e - 20 - 56 - c = e - 76 - c by omega]; exact on.trans (ends2_here (by omega) (.inl (eqT (by first | with_reducible assumption | assumption))))) (by repeat (first | exact fun _ h => h | refine subT ?_)) (by repeat (first | with_reducible assumption | refine ne_cons (by ((try dsimp only); first | with_reducible assumption | (symm; with_reducible assumption) | exact Cm.nl1 (by with_reducible assumption) | exact Cm.ng1 (by with_reducible assumption) | exact Cm.nl2 (by with_reducible assumption) | exact Cm.ng2 (by with_reducible assumption) | exact Cm.nl3 (by with_reducible assumption) | exact Cm.ng3 (by with_reducible assumption) | exact Cm.nl4 (by with_reducible assumption) | exact Cm.ng4 (by with_reducible assumption) | exact Cm.nl5 (by with_reducible assumption) | exact Cm.ng5 (by with_reducible assumption) | exact Cm.nl6 (by with_reducible assumption) | exact Cm.ng6 (by with_reducible assumption) | exact Cm.nl7 (by with_reducible assumption) | exact Cm.ng7 (by with_reducible assumption) | exact Cm.nn1 (by with_reducible assumption) | exact Cm.nm1 (by with_reducible assumption) | exact Cm.nn2 (by with_reducible assumption) | exact Cm.nm2 (by with_reducible assumption) | exact Cm.nn3 (by with_reducible assumption) | exact Cm.nm3 (by with_reducible assumption) | exact Cm.nn4 (by with_reducible assumption) | exact Cm.nm4 (by with_reducible assumption) | exact Cm.nn5 (by with_reducible assumption) | exact Cm.nm5 (by with_reducible assumption) | omega)) ?_)) (by repeat (first | with_reducible assumption | exact List.Mem.head _ | refine memS ?_)) (by repeat (first | exact True.intro | refine askedS (by repeat (first | with_reducible assumption | exact List.Mem.head _ | refine memS ?_)) (by first | with_reducible assumption | omega) (by with_reducible assumption) (by with_reducible assumption) ?_)))
              · ((refine Blk.into ?_); k_dflt (refine' read_use ?hk_54 ?H_54 ?hS_54 ?hd_54 ?hdq_54 ?hne_54 ?h0_54 ?h1_54 ?hc_54 ?hc1_54 ?hi_54 ?hl_54 ?hp_54 ?_ ?_); (case hk_54 => (first | with_reducible assumption | assumption)); (case H_54 => exact ⟨by k_asm, by k_asm, by k_asm, by ((rename News _ _ _ _ => dN); first | exact dN | exact roq1 dN | exact roq2 dN | exact roq3 dN | exact roq4 dN | exact roq5 dN | exact roq6 dN), by k_asm, by first | exact rfl | (first | with_reducible assumption | assumption), by (simp only [depth_deeper, depth_in1, ktrTop]; omega), by (simp only [units_deeper, units_in1, ktrTop]; omega)⟩); (case hS_54 => repeat (first | with_reducible assumption | refine subT ?_)); (case hd_54 => repeat (first | with_reducible assumption | refine ne_cons (by ((try dsimp only); first | with_reducible assumption | (symm; with_reducible assumption) | exact Cm.nl1 (by with_reducible assumption) | exact Cm.ng1 (by with_reducible assumption) | exact Cm.nl2 (by with_reducible assumption) | exact Cm.ng2 (by with_reducible assumption) | exact Cm.nl3 (by with_reducible assumption) | exact Cm.ng3 (by with_reducible assumption) | exact Cm.nl4 (by with_reducible assumption) | exact Cm.ng4 (by with_reducible assumption) | exact Cm.nl5 (by with_reducible assumption) | exact Cm.ng5 (by with_reducible assumption) | exact Cm.nl6 (by with_reducible assumption) | exact Cm.ng6 (by with_reducible assumption) | exact Cm.nl7 (by with_reducible assumption) | exact Cm.ng7 (by with_reducible assumption) | exact Cm.nn1 (by with_reducible assumption) | exact Cm.nm1 (by with_reducible assumption) | exact Cm.nn2 (by with_reducible assumption) | exact Cm.nm2 (by with_reducible assumption) | exact Cm.nn3 (by with_reducible assumption) | exact Cm.nm3 (by with_reducible assumption) | exact Cm.nn4 (by with_reducible assumption) | exact Cm.nm4 (by with_reducible assumption) | exact Cm.nn5 (by with_reducible assumption) | exact Cm.nm5 (by with_reducible assumption) | omega)) ?_)); (case hdq_54 => repeat (first | with_reducible assumption | refine ne_cons (by ((try dsimp only); first | with_reducible assumption | (symm; with_reducible assumption) | exact Cm.nl1 (by with_reducible assumption) | exact Cm.ng1 (by with_reducible assumption) | exact Cm.nl2 (by with_reducible assumption) | exact Cm.ng2 (by with_reducible assumption) | exact Cm.nl3 (by with_reducible assumption) | exact Cm.ng3 (by with_reducible assumption) | exact Cm.nl4 (by with_reducible assumption) | exact Cm.ng4 (by with_reducible assumption) | exact Cm.nl5 (by with_reducible assumption) | exact Cm.ng5 (by with_reducible assumption) | exact Cm.nl6 (by with_reducible assumption) | exact Cm.ng6 (by with_reducible assumption) | exact Cm.nl7 (by with_reducible assumption) | exact Cm.ng7 (by with_reducible assumption) | exact Cm.nn1 (by with_reducible assumption) | exact Cm.nm1 (by with_reducible assumption) | exact Cm.nn2 (by with_reducible assumption) | exact Cm.nm2 (by with_reducible assumption) | exact Cm.nn3 (by with_reducible assumption) | exact Cm.nm3 (by with_reducible assumption) | exact Cm.nn4 (by with_reducible assumption) | exact Cm.nm4 (by with_reducible assumption) | exact Cm.nn5 (by with_reducible assumption) | exact Cm.nm5 (by with_reducible assumption) | omega)) ?_)); (case hne_54 => (first | with_reducible assumption | assumption)); (case h0_54 => omega); (case h1_54 => omega); (case hc_54 => decide); (case hc1_54 => decide); (case hi_54 => (simp; done)); (case hl_54 => repeat (first | with_reducible assumption | refine memS ?_)); (case hp_54 => repeat (first | with_reducible assumption | refine piecesS ?_)); (all_goals (intro hcutq Vq Pq Dq tVq tPq tq cq epq hq tkq dq eoq hPq hP1q lrq l1q l2q Fq Nq hdlq; (simp only [Int.reduceToNat, Nat.reduceSub] at hdlq); (simp at hcutq); (try simp only [List.push_toArray, List.nil_append, List.cons_append] at Nq); have lrq := allLt_of lrq; replace l1q := ltN l1q; replace l2q := ltN l2q; (try simp only [AllLt] at lrq); (try k_sweep))))
                · (repeat' (first | ((with_reducible refine Blk.into ?_); (first | ((with_reducible show wpAny _ _ (getMethod _ _ _) _ _ _); (refine get_use (by (first | with_reducible assumption | assumption)) (by k_asm) (by k_asm) (by ((rename News _ _ _ _ => dN); first | exact dN | exact rot1 dN | exact rot2 dN | exact rot3 dN | exact rot4 dN | exact rot5 dN | exact rot6 dN)) (by repeat (first | with_reducible assumption | refine subT ?_)) ?_); intro tkq; (try dsimp only)) | ((with_reducible show wpAny _ _ (call (Value.ref _) [Value.int _ _]) _ _ _); (k_dflt (refine seek_use (by (first | with_reducible assumption | assumption)) (by exact ⟨by k_asm, by k_asm, by k_asm, by ((rename News _ _ _ _ => dN); first | exact dN | exact rot1 dN | exact rot2 dN | exact rot3 dN | exact rot4 dN | exact rot5 dN | exact rot6 dN), by k_asm, by first | exact rfl | (first | with_reducible assumption | assumption), by (simp only [depth_deeper, depth_in1, ktrTop]; omega), by (simp only [units_deeper, units_in1, ktrTop]; omega)⟩) (by repeat (first | with_reducible assumption | refine subT ?_)) (by repeat (first | with_reducible assumption | refine ne_cons (by ((try dsimp only); first | with_reducible assumption | (symm; with_reducible assumption) | exact Cm.nl1 (by with_reducible assumption) | exact Cm.ng1 (by with_reducible assumption) | exact Cm.nl2 (by with_reducible assumption) | exact Cm.ng2 (by with_reducible assumption) | exact Cm.nl3 (by with_reducible assumption) | exact Cm.ng3 (by with_reducible assumption) | exact Cm.nl4 (by with_reducible assumption) | exact Cm.ng4 (by with_reducible assumption) | exact Cm.nl5 (by with_reducible assumption) | exact Cm.ng5 (by with_reducible assumption) | exact Cm.nl6 (by with_reducible assumption) | exact Cm.ng6 (by with_reducible assumption) | exact Cm.nl7 (by with_reducible assumption) | exact Cm.ng7 (by with_reducible assumption) | exact Cm.nn1 (by with_reducible assumption) | exact Cm.nm1 (by with_reducible assumption) | exact Cm.nn2 (by with_reducible assumption) | exact Cm.nm2 (by with_reducible assumption) | exact Cm.nn3 (by with_reducible assumption) | exact Cm.nm3 (by with_reducible assumption) | exact Cm.nn4 (by with_reducible assumption) | exact Cm.nm4 (by with_reducible assumption) | exact Cm.nn5 (by with_reducible assumption) | exact Cm.nm5 (by with_reducible assumption) | omega)) ?_)) ?_)); intro hq tkq Fq Nq; (try k_sweep)) | (k_dflt (refine callWith_F (by walk_at "FnAt") ?_)) | ((with_reducible show wpAny _ _ (call (Value.builtin "len") [Value.bytes _ _]) _ _ _); (refine len_bytes (by (simp only [List.size_toArray]; omega)) ?_); (try simp only [List.size_toArray])) | ((with_reducible show wpAny _ _ (exec (Stmt.Raise (some (Expr.Call (Expr.Name ("OSError" : Str) _) [_] [] _)) none _) _) _ _ _); (refine OsX.raise_os rfl ?_)) | ((with_reducible show wpAny _ _ (call (Value.type "OSError") _) _ _ _); (refine OsX.call_os ?_; intro eq hq mq; refine And.intro (OsX.Made.at_ mq) ?_)) | ((with_reducible show wpAny _ _ (call (Value.builtin "_struct.unpack") _) _ _ _); ((first | refine Unp.unpack_loc (by omega) (by k_asm) (by k_asm) ?_ | refine Unp.unpack_rec (by omega) (by k_asm) (by k_asm) ?_); intros; (rename ∀ p : Addr × Obj, p ∈ _ → p.1 < _ => l1q); (have l9q := allLt_of l1q); (simp only [AllLt] at l9q); (try clear l1q); (try k_sweep))) | ((with_reducible show wpAny _ _ (call (Value.builtin "bytes.startswith") _) _ _ _); (refine Unp.starts_call (c := [_, _, _, _]) (by (simp only [List.length_cons, List.length_nil]; omega)) ?_)) | ((refine' OsX.leave_os ?k1_55 ?k0_55 ?k2_55 ?k3_55 ?_; (case k0_55 => (first | with_reducible assumption | assumption)); (case k2_55 => (first | with_reducible assumption | assumption)); (case k1_55 => (first | with_reducible assumption | assumption)); (case k3_55 => k_asm); k_whole; intro hq Sq Uq; (try dsimp only at Sq Uq ⊢))) | ((refine' leave_raiseS ?kk1_55 ?kk0_55 ?kk2_55 ?kk3_55 ?_; (case kk0_55 => first | (first | with_reducible assumption | assumption) | exact Heap.MadeExc.of (by (first | with_reducible assumption | assumption))); (case kk2_55 => (first | with_reducible assumption | assumption)); (case kk1_55 => (first | with_reducible assumption | assumption)); (case kk3_55 => k_asm); k_whole; intro hq tq Sq Rq Uq; (try dsimp only at Sq Rq Uq ⊢))))) | (k_unfold; (try dsimp only)) | (k_end; wrow_close) | walk1 | (dsimp only; walk1) | (leave1; (try dsimp only))))
                  · rename Fr h₀ L _ m => FG
                    refine' hshort [(e - 20, 20), (c, 56), (e - 76, 56)] _ _ _ _ _ ?eq201 ?led201 ?R201 FG ?U201
                    case U201 => (first | with_reducible assumption | assumption)
                    case R201 => (first | with_reducible assumption | assumption)
                    case led201 => (refine' ⟨?r_56, _, ?w_56, _, _, ?q_56, ?a_56⟩; (case r_56 => repeat (first | exact fun _ h => h | refine subT ?_)); (case w_56 => repeat (first | with_reducible assumption | exact List.Mem.head _ | refine memS ?_)); (case q_56 => repeat (first | with_reducible assumption | exact List.Mem.head _ | refine memS ?_)); (case a_56 => repeat (first | exact True.intro | refine askedS (by repeat (first | with_reducible assumption | exact List.Mem.head _ | refine memS ?_)) (by first | with_reducible assumption | omega) (by with_reducible assumption) (by with_reducible assumption) ?_)))
                    case eq201 => exact on.trans (ends2_short3 (by omega) (neT (by first | with_reducible assumption | assumption)) (by omega))
                  · exfalso; omega
                · intro hdd
                  rw [show e - 20 - 56 = e - 76 by omega] at hdd
                  (repeat' (first | ((with_reducible refine Blk.into ?_); (first | ((with_reducible show wpAny _ _ (getMethod _ _ _) _ _ _); (refine get_use (by (first | with_reducible assumption | assumption)) (by k_asm) (by k_asm) (by ((rename News _ _ _ _ => dN); first | exact dN | exact rot1 dN | exact rot2 dN | exact rot3 dN | exact rot4 dN | exact rot5 dN | exact rot6 dN)) (by repeat (first | with_reducible assumption | refine subT ?_)) ?_); intro tkq; (try dsimp only)) | ((with_reducible show wpAny _ _ (call (Value.ref _) [Value.int _ _]) _ _ _); (k_dflt (refine seek_use (by (first | with_reducible assumption | assumption)) (by exact ⟨by k_asm, by k_asm, by k_asm, by ((rename News _ _ _ _ => dN); first | exact dN | exact rot1 dN | exact rot2 dN | exact rot3 dN | exact rot4 dN | exact rot5 dN | exact rot6 dN), by k_asm, by first | exact rfl | (first | with_reducible assumption | assumption), by (simp only [depth_deeper, depth_in1, ktrTop]; omega), by (simp only [units_deeper, units_in1, ktrTop]; omega)⟩) (by repeat (first | with_reducible assumption | refine subT ?_)) (by repeat (first | with_reducible assumption | refine ne_cons (by ((try dsimp only); first | with_reducible assumption | (symm; with_reducible assumption) | exact Cm.nl1 (by with_reducible assumption) | exact Cm.ng1 (by with_reducible assumption) | exact Cm.nl2 (by with_reducible assumption) | exact Cm.ng2 (by with_reducible assumption) | exact Cm.nl3 (by with_reducible assumption) | exact Cm.ng3 (by with_reducible assumption) | exact Cm.nl4 (by with_reducible assumption) | exact Cm.ng4 (by with_reducible assumption) | exact Cm.nl5 (by with_reducible assumption) | exact Cm.ng5 (by with_reducible assumption) | exact Cm.nl6 (by with_reducible assumption) | exact Cm.ng6 (by with_reducible assumption) | exact Cm.nl7 (by with_reducible assumption) | exact Cm.ng7 (by with_reducible assumption) | exact Cm.nn1 (by with_reducible assumption) | exact Cm.nm1 (by with_reducible assumption) | exact Cm.nn2 (by with_reducible assumption) | exact Cm.nm2 (by with_reducible assumption) | exact Cm.nn3 (by with_reducible assumption) | exact Cm.nm3 (by with_reducible assumption) | exact Cm.nn4 (by with_reducible assumption) | exact Cm.nm4 (by with_reducible assumption) | exact Cm.nn5 (by with_reducible assumption) | exact Cm.nm5 (by with_reducible assumption) | omega)) ?_)) ?_)); intro hq tkq Fq Nq; (try k_sweep)) | (k_dflt (refine callWith_F (by walk_at "FnAt") ?_)) | ((with_reducible show wpAny _ _ (call (Value.builtin "len") [Value.bytes _ _]) _ _ _); (refine len_bytes (by (simp only [List.size_toArray]; omega)) ?_); (try simp only [List.size_toArray])) | ((with_reducible show wpAny _ _ (exec (Stmt.Raise (some (Expr.Call (Expr.Name ("OSError" : Str) _) [_] [] _)) none _) _) _ _ _); (refine OsX.raise_os rfl ?_)) | ((with_reducible show wpAny _ _ (call (Value.type "OSError") _) _ _ _); (refine OsX.call_os ?_; intro eq hq mq; refine And.intro (OsX.Made.at_ mq) ?_)) | ((with_reducible show wpAny _ _ (call (Value.builtin "_struct.unpack") _) _ _ _); ((first | refine Unp.unpack_loc (by omega) (by k_asm) (by k_asm) ?_ | refine Unp.unpack_rec (by omega) (by k_asm) (by k_asm) ?_); intros; (rename ∀ p : Addr × Obj, p ∈ _ → p.1 < _ => l1q); (have l9q := allLt_of l1q); (simp only [AllLt] at l9q); (try clear l1q); (try k_sweep))) | ((with_reducible show wpAny _ _ (call (Value.builtin "bytes.startswith") _) _ _ _); (refine Unp.starts_call (c := [_, _, _, _]) (by (simp only [List.length_cons, List.length_nil]; omega)) ?_)) | ((refine' OsX.leave_os ?k1_57 ?k0_57 ?k2_57 ?k3_57 ?_; (case k0_57 => (first | with_reducible assumption | assumption)); (case k2_57 => (first | with_reducible assumption | assumption)); (case k1_57 => (first | with_reducible assumption | assumption)); (case k3_57 => k_asm); k_whole; intro hq Sq Uq; (try dsimp only at Sq Uq ⊢))) | ((refine' leave_raiseS ?kk1_57 ?kk0_57 ?kk2_57 ?kk3_57 ?_; (case kk0_57 => first | (first | with_reducible assumption | assumption) | exact Heap.MadeExc.of (by (first | with_reducible assumption | assumption))); (case kk2_57 => (first | with_reducible assumption | assumption)); (case kk1_57 => (first | with_reducible assumption | assumption)); (case kk3_57 => k_asm); k_whole; intro hq tq Sq Rq Uq; (try dsimp only at Sq Rq Uq ⊢))))) | (k_unfold; (try dsimp only)) | (k_end; wrow_close) | walk1 | (dsimp only; walk1) | (leave1; (try dsimp only))))
                  · omega
                  · subst hdd
                    (refine ⟨_, _, rfl, ?_⟩; intro G k; exact k _ _ _ _ _ _ _ _ _ _ _ _ (by k_asm) (by ((rename News _ _ _ _ => dN); first | exact dN | exact rot1 dN | exact rot2 dN | exact rot3 dN | exact rot4 dN | exact rot5 dN | exact rot6 dN)) (by repeat (first | exact nm_nil | refine nm_cons (by first | with_unfolding_all rfl | (rw [← hc]; with_unfolding_all rfl)) ?_)) (by (first | with_reducible assumption | omega)) (by omega) (on.trans (ends2_last (by omega) (by omega) (neT (by first | with_reducible assumption | assumption)) (by omega))) (by repeat (first | exact fun _ h => h | refine subT ?_)) (by repeat (first | with_reducible assumption | refine ne_cons (by ((try dsimp only); first | with_reducible assumption | (symm; with_reducible assumption) | exact Cm.nl1 (by with_reducible assumption) | exact Cm.ng1 (by with_reducible assumption) | exact Cm.nl2 (by with_reducible assumption) | exact Cm.ng2 (by with_reducible assumption) | exact Cm.nl3 (by with_reducible assumption) | exact Cm.ng3 (by with_reducible assumption) | exact Cm.nl4 (by with_reducible assumption) | exact Cm.ng4 (by with_reducible assumption) | exact Cm.nl5 (by with_reducible assumption) | exact Cm.ng5 (by with_reducible assumption) | exact Cm.nl6 (by with_reducible assumption) | exact Cm.ng6 (by with_reducible assumption) | exact Cm.nl7 (by with_reducible assumption) | exact Cm.ng7 (by with_reducible assumption) | exact Cm.nn1 (by with_reducible assumption) | exact Cm.nm1 (by with_reducible assumption) | exact Cm.nn2 (by with_reducible assumption) | exact Cm.nm2 (by with_reducible assumption) | exact Cm.nn3 (by with_reducible assumption) | exact Cm.nm3 (by with_reducible assumption) | exact Cm.nn4 (by with_reducible assumption) | exact Cm.nm4 (by with_reducible assumption) | exact Cm.nn5 (by with_reducible assumption) | exact Cm.nm5 (by with_reducible assumption) | omega)) ?_)) (by repeat (first | with_reducible assumption | exact List.Mem.head _ | refine memS ?_)) (by repeat (first | exact True.intro | refine askedS (by repeat (first | with_reducible assumption | exact List.Mem.head _ | refine memS ?_)) (by first | with_reducible assumption | omega) (by with_reducible assumption) (by with_reducible assumption) ?_)))
              · (refine ⟨_, _, rfl, ?_⟩; intro G k; exact k _ _ _ _ _ _ _ _ _ _ _ _ (by k_asm) (by ((rename News _ _ _ _ => dN); first | exact dN | exact rot1 dN | exact rot2 dN | exact rot3 dN | exact rot4 dN | exact rot5 dN | exact rot6 dN)) (by repeat (first | exact nm_nil | refine nm_cons (by first | with_unfolding_all rfl | (rw [← hc]; with_unfolding_all rfl)) ?_)) (by (first | with_reducible assumption | omega)) (by omega) (by rw [hc, show e - 20 - 56 - c = e - 76 - c by omega]; exact on.trans (ends2_here (by omega) (.inr (by omega)))) (by repeat (first | exact fun _ h => h | refine subT ?_)) (by repeat (first | with_reducible assumption | refine ne_cons (by ((try dsimp only); first | with_reducible assumption | (symm; with_reducible assumption) | exact Cm.nl1 (by with_reducible assumption) | exact Cm.ng1 (by with_reducible assumption) | exact Cm.nl2 (by with_reducible assumption) | exact Cm.ng2 (by with_reducible assumption) | exact Cm.nl3 (by with_reducible assumption) | exact Cm.ng3 (by with_reducible assumption) | exact Cm.nl4 (by with_reducible assumption) | exact Cm.ng4 (by with_reducible assumption) | exact Cm.nl5 (by with_reducible assumption) | exact Cm.ng5 (by with_reducible assumption) | exact Cm.nl6 (by with_reducible assumption) | exact Cm.ng6 (by with_reducible assumption) | exact Cm.nl7 (by with_reducible assumption) | exact Cm.ng7 (by with_reducible assumption) | exact Cm.nn1 (by with_reducible assumption) | exact Cm.nm1 (by with_reducible assumption) | exact Cm.nn2 (by with_reducible assumption) | exact Cm.nm2 (by with_reducible assumption) | exact Cm.nn3 (by with_reducible assumption) | exact Cm.nm3 (by with_reducible assumption) | exact Cm.nn4 (by with_reducible assumption) | exact Cm.nm4 (by with_reducible assumption) | exact Cm.nn5 (by with_reducible assumption) | exact Cm.nm5 (by with_reducible assumption) | omega)) ?_)) (by repeat (first | with_reducible assumption | exact List.Mem.head _ | refine memS ?_)) (by repeat (first | exact True.intro | refine askedS (by repeat (first | with_reducible assumption | exact List.Mem.head _ | refine memS ?_)) (by first | with_reducible assumption | omega) (by with_reducible assumption) (by with_reducible assumption) ?_)))
            · intro h2 tk2 hJ
              with_reducible refine hJ _ ?_
              clear hJ Jc
              intro m2 d td to tr tx of xs nx rs refs ep F2 N2 M2 hd56 hof hfin hsub hnrw hqam hask
              with_reducible refine fr_fold F2 M2 ?_
              clear F2 M2 on
              intro mm F2
              dsimp only [List.drop]
              (repeat' (first | ((with_reducible refine Blk.into ?_); (first | ((with_reducible show wpAny _ _ (getMethod _ _ _) _ _ _); (refine get_use (by (first | with_reducible assumption | assumption)) (by k_asm) (by k_asm) (by ((rename News _ _ _ _ => dN); first | exact dN | exact rot1 dN | exact rot2 dN | exact rot3 dN | exact rot4 dN | exact rot5 dN | exact rot6 dN)) (by repeat (first | with_reducible assumption | refine subT ?_)) ?_); intro tkq; (try dsimp only)) | ((with_reducible show wpAny _ _ (call (Value.ref _) [Value.int _ _]) _ _ _); (k_dflt (refine seek_use (by (first | with_reducible assumption | assumption)) (by exact ⟨by k_asm, by k_asm, by k_asm, by ((rename News _ _ _ _ => dN); first | exact dN | exact rot1 dN | exact rot2 dN | exact rot3 dN | exact rot4 dN | exact rot5 dN | exact rot6 dN), by k_asm, by first | exact rfl | (first | with_reducible assumption | assumption), by (simp only [depth_deeper, depth_in1, ktrTop]; omega), by (simp only [units_deeper, units_in1, ktrTop]; omega)⟩) (by repeat (first | with_reducible assumption | refine subT ?_)) (by repeat (first | with_reducible assumption | refine ne_cons (by ((try dsimp only); first | with_reducible assumption | (symm; with_reducible assumption) | exact Cm.nl1 (by with_reducible assumption) | exact Cm.ng1 (by with_reducible assumption) | exact Cm.nl2 (by with_reducible assumption) | exact Cm.ng2 (by with_reducible assumption) | exact Cm.nl3 (by with_reducible assumption) | exact Cm.ng3 (by with_reducible assumption) | exact Cm.nl4 (by with_reducible assumption) | exact Cm.ng4 (by with_reducible assumption) | exact Cm.nl5 (by with_reducible assumption) | exact Cm.ng5 (by with_reducible assumption) | exact Cm.nl6 (by with_reducible assumption) | exact Cm.ng6 (by with_reducible assumption) | exact Cm.nl7 (by with_reducible assumption) | exact Cm.ng7 (by with_reducible assumption) | exact Cm.nn1 (by with_reducible assumption) | exact Cm.nm1 (by with_reducible assumption) | exact Cm.nn2 (by with_reducible assumption) | exact Cm.nm2 (by with_reducible assumption) | exact Cm.nn3 (by with_reducible assumption) | exact Cm.nm3 (by with_reducible assumption) | exact Cm.nn4 (by with_reducible assumption) | exact Cm.nm4 (by with_reducible assumption) | exact Cm.nn5 (by with_reducible assumption) | exact Cm.nm5 (by with_reducible assumption) | omega)) ?_)) ?_)); intro hq tkq Fq Nq; (try k_sweep)) | (k_dflt (refine callWith_F (by walk_at "FnAt") ?_)) | ((with_reducible show wpAny _ _ (call (Value.builtin "len") [Value.bytes _ _]) _ _ _); (refine len_bytes (by (simp only [List.size_toArray]; omega)) ?_); (try simp only [List.size_toArray])) | ((with_reducible show wpAny _ _ (exec (Stmt.Raise (some (Expr.Call (Expr.Name ("OSError" : Str) _) [_] [] _)) none _) _) _ _ _); (refine OsX.raise_os rfl ?_)) | ((with_reducible show wpAny _ _ (call (Value.type "OSError") _) _ _ _); (refine OsX.call_os ?_; intro eq hq mq; refine And.intro (OsX.Made.at_ mq) ?_)) | ((with_reducible show wpAny _ _ (call (Value.builtin "_struct.unpack") _) _ _ _); ((first | refine Unp.unpack_loc (by omega) (by k_asm) (by k_asm) ?_ | refine Unp.unpack_rec (by omega) (by k_asm) (by k_asm) ?_); intros; (rename ∀ p : Addr × Obj, p ∈ _ → p.1 < _ => l1q); (have l9q := allLt_of l1q); (simp only [AllLt] at l9q); (try clear l1q); (try k_sweep))) | ((with_reducible show wpAny _ _ (call (Value.builtin "bytes.startswith") _) _ _ _); (refine Unp.starts_call (c := [_, _, _, _]) (by (simp only [List.length_cons, List.length_nil]; omega)) ?_)) | ((refine' OsX.leave_os ?k1_58 ?k0_58 ?k2_58 ?k3_58 ?_; (case k0_58 => (first | with_reducible assumption | assumption)); (case k2_58 => (first | with_reducible assumption | assumption)); (case k1_58 => (first | with_reducible assumption | assumption)); (case k3_58 => k_asm); k_whole; intro hq Sq Uq; (try dsimp only at Sq Uq ⊢))) | ((refine' leave_raiseS ?kk1_58 ?kk0_58 ?kk2_58 ?kk3_58 ?_; (case kk0_58 => first | (first | with_reducible assumption | assumption) | exact Heap.MadeExc.of (by (first | with_reducible assumption | assumption))); (case kk2_58 => (first | with_reducible assumption | assumption)); (case kk1_58 => (first | with_reducible assumption | assumption)); (case kk3_58 => k_asm); k_whole; intro hq tq Sq Rq Uq; (try dsimp only at Sq Rq Uq ⊢))))) | (k_unfold; (try dsimp only)) | (k_end; wrow_close) | walk1 | (dsimp only; walk1) | (leave1; (try dsimp only))))
              · rename Fr h₀ L _ m => FG
                refine' hbad rs _ _ _ _ _ ?eq302 ?led302 ?R302 FG ?U302
                case U302 => (first | with_reducible assumption | assumption)
                case R302 => exact RaisedS.toSN (by first | with_reducible assumption | assumption)
                case led302 => (refine' ⟨?r_59, _, ?w_59, _, _, ?q_59, ?a_59⟩; (case r_59 => repeat (first | exact hsub | refine subT ?_)); (case w_59 => repeat (first | with_reducible assumption | exact List.Mem.head _ | refine memS ?_)); (case q_59 => repeat (first | with_reducible assumption | exact List.Mem.head _ | refine memS ?_)); (case a_59 => exact asked_mono (by repeat (first | exact fun _ h => h | refine subT ?_)) hask))
                case eq302 => exact hfin.trans (fin_bad (eqT (by first | with_reducible assumption | assumption)) (by omega))
              · rename Fr h₀ L _ m => FG
                refine' hbad rs _ _ _ _ _ ?eq303 ?led303 ?R303 FG ?U303
                case U303 => (first | with_reducible assumption | assumption)
                case R303 => exact RaisedS.toSN (by first | with_reducible assumption | assumption)
                case led303 => (refine' ⟨?r_60, _, ?w_60, _, _, ?q_60, ?a_60⟩; (case r_60 => repeat (first | exact hsub | refine subT ?_)); (case w_60 => repeat (first | with_reducible assumption | exact List.Mem.head _ | refine memS ?_)); (case q_60 => repeat (first | with_reducible assumption | exact List.Mem.head _ | refine memS ?_)); (case a_60 => exact asked_mono (by repeat (first | exact fun _ h => h | refine subT ?_)) hask))
                case eq303 => exact hfin.trans (fin_bad (eqT (by first | with_reducible assumption | assumption)) (by omega))
              · refine' hnew rs _ _ _ _ _ _ _ _ _ _ _ _ _ ?eq304 ?led304 ?F304 ?N304
                case N304 => k_asm
                case F304 => k_asm
                case led304 => (refine' ⟨?r_61, _, ?w_61, _, _, ?q_61, ?a_61⟩; (case r_61 => repeat (first | exact hsub | refine subT ?_)); (case w_61 => repeat (first | with_reducible assumption | exact List.Mem.head _ | refine memS ?_)); (case q_61 => repeat (first | with_reducible assumption | exact List.Mem.head _ | refine memS ?_)); (case a_61 => exact asked_mono (by repeat (first | exact fun _ h => h | refine subT ?_)) hask))
                case eq304 => exact hfin.trans (fin_okS (eqT (by first | with_reducible assumption | assumption)) (by omega) (by omega) (by omega))
              · rename Fr h₀ L _ m => FG
                refine' hbad rs _ _ _ _ _ ?eq305 ?led305 ?R305 FG ?U305
                case U305 => (first | with_reducible assumption | assumption)
                case R305 => exact RaisedS.toSN (by first | with_reducible assumption | assumption)
                case led305 => (refine' ⟨?r_62, _, ?w_62, _, _, ?q_62, ?a_62⟩; (case r_62 => repeat (first | exact hsub | refine subT ?_)); (case w_62 => repeat (first | with_reducible assumption | exact List.Mem.head _ | refine memS ?_)); (case q_62 => repeat (first | with_reducible assumption | exact List.Mem.head _ | refine memS ?_)); (case a_62 => exact asked_mono (by repeat (first | exact fun _ h => h | refine subT ?_)) hask))
                case eq305 => exact hfin.trans (fin_none (neT (by first | with_reducible assumption | assumption)))
end
end Mine01
end
namespace Mine01
theorem rest14 : True ∧ True := by w_top off; first | (walk1; all_goals trivial) | exact ⟨trivial, trivial⟩
end Mine01

section
namespace Mine01
open DivM Lp

section
variable {prog : Program} {w : World} {p : Program} {loose : List Str} {mean : ExcName → Option Value} {mg mb : Str → Option Value}
  {dp un : Nat} {gd : Option (List Code)} {cn : Str} {cs : Scope} {ad : Addr} {ccd : Value} {cl : List (Str × Addr)} {outer : List Env} {A₀ : Around} {base h₀ : Heap} {L : Addr} {m : Str → Option Value} {news : List (Addr × Obj)} {s : Shared} {Q E : Value → Shared → Prop}
theorem back_call {V P n z : Int} {tV tP tn tz : Tok} (hP : 0 ≤ P) (hP1 : P < z) (hn : 0 ≤ n) (hn1 : n ≤ z) (H : Here w p loose mean mg mb 0 dp un cs outer A₀ base h₀ L m news s.heap)
    (hret : ∀ V' P' D uV uP c h' tk', V' * z + P' = V * z + P - n → 0 ≤ P' → P' < z → Fr h₀ L h' m → News h₀ L h' ((D, { cls := .type "tuple", data := .seq #[.int V' uV, .int P' uP] c }) :: news) → (∀ p ∈ news, p.1 < D) → Q (.ref D) { s with heap := h', toks := tk' }) :
    wpAny (model prog w) (ktrTop dp un gd cn cs L ad ccd cl outer) (call (.ref 151) [.int V tV, .int P tP, .int n tn, .int z tz]) Q E s := by
  obtain ⟨B, F, X, N, T, hk, hd, hu⟩ := H
  have hV : (V - 1) * z = V * z - z := by rw [Int.sub_mul]; omega
  refine wpAny_call ?_
  k_dflt ktr_enter
  k_steps
  · refine' hret V (P - n) _ _ _ _ _ _ (by omega) (by omega) (by omega) ?F1 ?N1 ?l1
    case N1 => k_asm
    case F1 => k_asm
    case l1 => assumption
  · refine' hret (V - 1) (P - n + z) _ _ _ _ _ _ (by omega) (by omega) (by omega) ?F2 ?N2 ?l2
    case N2 => k_asm
    case F2 => k_asm
    case l2 => assumption
end
end Mine01
end
namespace Mine01
theorem rest15 : True ∧ True := by w_top off; first | (walk1; all_goals trivial) | exact ⟨trivial, trivial⟩
end Mine01

section
open PySem PySem.W PySem.Calls PyProof.Rows
namespace Jn
section
variable {prog : Program} {w : World} {A₀ A : Around} {s : Shared} {base h₀ : Heap} {env : Env} {L : Addr} {m : Str → Option Value} {news : List (Addr × Obj)} {K : Frag} {p : Program} {loose : List Str} {mean : ExcName → Option Value} {mg mb : Str → Option Value}
    {R : Result → Shared → Prop} {name qual : Str} {params : Arguments} {body : List Stmt} {scope : Scope} {dV kV doc pm cdv ct oc : Value} {an od : Option Addr} {osl : Array (Option Value)} {f : Addr} {args : Args} {binds : List (Str × Value)}
theorem back_turned {h' g g' : Heap} {L' : Addr} {m' : Str → Option Value} {news' : List (Addr × Obj)} (F₀ : Fr h₀ L s.heap m) (FG : Fr h₀ L g m) (T : KtsTurn [L] g g') (F' : Fr g' L' h' m') (N' : News g' L' h' news') : Fr h₀ L h' m ∧ News h₀ L h' news' := by
  obtain ⟨o, es, ep, ho, hd, hk, hf⟩ := FG.ns
  obtain ⟨sl, hs⟩ := T.up ho
  have none₀ : h₀.get? L = none := kts_self F₀
  have ne : ∀ b o, h₀.get? b = some o → b ∉ [L] := fun b o e q => by
    rw [List.mem_singleton.mp q, none₀] at e
    cases e
  refine ⟨⟨⟨_, es, ep, F'.keep _ _ hs, hd, hk, hf⟩, fun b o e => F'.keep b o (T.other b o (FG.keep b o e) (ne b o e)), FG.above⟩, fun q hq => ⟨(N' q hq).1, fun z => ?_, ?_⟩⟩
  · have := (N' q hq).2.2
    rw [z, hs] at this
    cases this
  · cases e : h₀.get? q.1 with
    | none => rfl
    | some o =>
      have := T.other q.1 o (FG.keep _ _ e) (ne _ _ e)
      rw [(N' q hq).2.2] at this
      cases this
/-- the way into a def that holds a try, out of the law's own frame (whatever cells that frame has) -/
theorem enterS (B : Below A₀ base [] h₀) (F : Fr h₀ L s.heap m) (X₀ : K.In h₀) (N : News h₀ L s.heap news) (T : Top p loose mean mg mb h₀) (hA : A.frames = some [env]) (hf : env.frame = some L) (hke : env.scope.kind = .function)
    (ho : K.lookup f = some ⟨oc, od, .func (fnOf name qual params body scope dV kV doc pm an cdv ct), osl⟩) (hcd : codeIn K cdv qual = true) (hroom : A.depth < recursionLimit)
    (hbind : BindsTo s (fnOf name qual params body scope dV kV doc pm an cdv ct) args binds) (hloc : ∀ y ∈ binds, scope.names.lookup y.1 = some .local)
    (h : ∀ g L' h₁, Fr h₀ L g m → Fr g L' h₁ (fun y => binds.reverse.lookup y) → News g L' h₁ news → Below A base [env] g → K.In g → Top p loose mean mg mb g → KtsDicts [L] g →
      wpAny (model prog w) (A.deeper (envOf qual scope L' f cdv)) (execs body (envOf qual scope L' f cdv))
        (fun fl s' => ∃ g' L₂ m' news', KtsTurn [L] g g' ∧ Fr g' L₂ s'.heap m' ∧ News g' L₂ s'.heap news' ∧ (Fr h₀ L s'.heap m → News h₀ L s'.heap news' → R (.ok (.ret (match fl with | .ret v => v | _ => .none))) s'))
        (fun e s' => wpAny (model prog w) (A.deeper (envOf qual scope L' f cdv)) (leaving (envOf qual scope L' f cdv) e) (fun _ s'' => R (.error e) s'') (fun e' s'' => R (.error e') s'') s')
        { s with heap := h₁, toks := s.toks + binds.length })
    (hco : scope.isCoroutine = false) (hgen : scope.isGenerator = false) (hk : scope.kind = .function)
    (hcell : ∀ x ∈ scope.names, x.2 ≠ .cell) : codeAny (model prog w) A (.call (.ref f) args) R s := by
  have X := X₀.keeps F.keep
  obtain ⟨FG, BG, st, _⟩ := groundX (R := R) B F N hA hf hke
  refine codeAny_call_def (fd := fnOf name qual params body scope dV kV doc pm an cdv ct) (body := body) (binds := binds) hroom (X _ _ ho) rfl (T.nolimit.keeps F.keep) (codeRec_of X hcd) rfl hbind hcell hloc (fun h₁ hns hk₁ => ?_) hco hgen hk
  refine wpAny_mono (h _ s.heap.objs.size h₁ FG ⟨hns, fun b o e => hk₁ b o (of_hideAll _ e), Nat.le_of_eq (hideAll_size _ _)⟩
    (fun q hq => ⟨hk₁ _ _ (N q hq).1, Nat.ne_of_lt (Heap.lt_size (N q hq).1), hideAll_none _ (List.mem_map_of_mem hq)⟩) BG (X₀.keeps st) (T.keeps st) (fun b hb => ?_)) (fun fl s' hl => ?_) fun _ _ y => y
  · obtain ⟨o, es, ep, ho, hd, _⟩ := FG.ns
    rw [List.mem_singleton.mp hb]
    exact ⟨o, es, ep, ho, hd⟩
  · obtain ⟨g', L₂, m', news', T', F', N', k⟩ := hl
    obtain ⟨a, b⟩ := back_turned F FG T' F' N'
    exact k a b
/-- the same for a def with cells -/
theorem enterSC (B : Below A₀ base [] h₀) (F : Fr h₀ L s.heap m) (X₀ : K.In h₀) (N : News h₀ L s.heap news) (T : Top p loose mean mg mb h₀) (hA : A.frames = some [env]) (hf : env.frame = some L) (hke : env.scope.kind = .function)
    (ho : K.lookup f = some ⟨oc, od, .func (fnOf name qual params body scope dV kV doc pm an cdv ct), osl⟩) (hcd : codeIn K cdv qual = true) (hroom : A.depth < recursionLimit)
    (hbind : BindsTo s (fnOf name qual params body scope dV kV doc pm an cdv ct) args binds) (hkind : (binds.all fun y => scope.names.lookup y.1 == some .local || scope.names.lookup y.1 == some .cell) = true)
    (hnd : ((cellsFrom 0 scope.names []).map (·.1)).Nodup)
    (h : ∀ g L' h₁ tk cells, Fr h₀ L g m → Fr g L' h₁ (bindL (envOfC qual scope L' f cdv).kindOf binds fun _ => none) → News g L' h₁ (cells ++ news) →
      CellsAre (bindC (envOfC qual scope L' f cdv).kindOf binds fun _ => none) (cellsFrom (L' + 1) scope.names []) cells → Below A base [env] g → K.In g → Top p loose mean mg mb g → KtsDicts [L] g → (∀ p ∈ news, p.1 < L') →
      wpAny (model prog w) (A.deeper (envOfC qual scope L' f cdv)) (execs body (envOfC qual scope L' f cdv))
        (fun fl s' => ∃ g' L₂ m' news', KtsTurn [L] g g' ∧ Fr g' L₂ s'.heap m' ∧ News g' L₂ s'.heap news' ∧ (Fr h₀ L s'.heap m → News h₀ L s'.heap news' → R (.ok (.ret (match fl with | .ret v => v | _ => .none))) s'))
        (fun e s' => wpAny (model prog w) (A.deeper (envOfC qual scope L' f cdv)) (leaving (envOfC qual scope L' f cdv) e) (fun _ s'' => R (.error e) s'') (fun e' s'' => R (.error e') s'') s')
        { s with heap := h₁, toks := tk })
    (hco : scope.isCoroutine = false) (hgen : scope.isGenerator = false) (hk : scope.kind = .function) : codeAny (model prog w) A (.call (.ref f) args) R s := by
  have X := X₀.keeps F.keep
  obtain ⟨FG, BG, st, _⟩ := groundX (R := R) B F N hA hf hke
  refine codeAny_call_function hroom (X _ _ ho) rfl hco hgen rfl (codeRec_of X hcd) (hbind _ _ _ _ ?_)
  refine wpAny_newFunctionEnv_cells hk (kindsX hkind _) fun env' he s' x => ?_
  subst he
  refine ⟨(T.nolimit.keeps F.keep).keeps x.toInCall.keep, codeAny_func ?_⟩
  obtain ⟨h₁, tk, rfl, _⟩ := x.done
  have kept := x.toInCall.keep
  obtain ⟨cells, NC, Y⟩ := Cl.news (h₀ := s.heap) (Nat.le_refl _) fun n c hm => ⟨x.cell n c (lookup_of_mem_nodup (cellsFrom_names scope.names 0 (s.heap.objs.size + 1) [] [] rfl ▸ hnd) hm), x.above n c hm⟩
  have led : News (hideAll s.heap (news.map (·.1))) s.heap.objs.size h₁ (cells ++ news) := fun q hq => by
    rcases List.mem_append.mp hq with hq | hq
    · refine ⟨(NC q hq).1, (NC q hq).2.1, ?_⟩
      cases e : (hideAll s.heap (news.map (·.1))).get? q.1 with
      | none => rfl
      | some o => have z := of_hideAll _ e; rw [(NC q hq).2.2] at z; cases z
    · exact ⟨kept _ _ (N q hq).1, Nat.ne_of_lt (Heap.lt_size (N q hq).1), hideAll_none _ (List.mem_map_of_mem hq)⟩
  refine wpAny_mono (h _ s.heap.objs.size h₁ tk cells FG ⟨x.toInCall.ns, fun b o e => kept b o (of_hideAll _ e), Nat.le_of_eq (hideAll_size _ _)⟩ led Y BG (X₀.keeps st) (T.keeps st) (fun b hb => ?_) fun q hq => Heap.lt_size (N q hq).1)
    (fun fl s' hl => ?_) fun _ _ y => y
  · obtain ⟨o, es, ep, ho, hd, _⟩ := FG.ns
    rw [List.mem_singleton.mp hb]
    exact ⟨o, es, ep, ho, hd⟩
  · obtain ⟨g', L₂, m', news', T', F', N', k⟩ := hl
    obtain ⟨a, b⟩ := back_turned F FG T' F' N'
    exact k a b
end
end Jn
end

section
open PySem PySem.W PySem.Spec PySem.Calls PyProof.Rows
namespace Jn
section
variable {prog : Program} {w : World} {A A₀ : Around} {E : Value → Shared → Prop} {s' : Shared} {base g g₀ G : Heap} {env : Env} {outer : List Env} {L e : Addr} {m : Str → Option Value} {b₀ : Stmt} {suite body : List Stmt} {nm : Option Str} {pos : Pos} {rest hs : List ExceptHandler} {Q : Flow → Shared → Prop} {news : List (Addr × Obj)} {KF : Frag}
  {p : Program} {loose : List Str} {mean : ExcName → Option Value} {mg mb : Str → Option Value} {cls : Value} {tt : Expr} {b : Bool}
/-- an except clause's test, out of any frame -/
abbrev TestX (prog : Program) (w : World) (K : Frag) (p : Program) (loose : List Str) (mg mb : Str → Option Value) (env : Env) (L : Addr) (cls : Value) (t : Expr) (b : Bool) : Prop :=
  ∀ (A : Around) (E : Value → Shared → Prop) (Q : Bool → Shared → Prop) (s : Shared) (g : Heap) (e : Addr) (m : Str → Option Value), Fr g L s.heap m → K.In g → TopRead p loose mg mb g → Looks (model prog w) s.heap (typeOf (.ref e)) cls →
    (∀ h', (∀ q o, s.heap.get? q = some o → h'.get? q = some o) → Q b { s with heap := h' }) → wpAny (model prog w) A (eval t env) (fun c s₁ => wpAny (model prog w) A (excMatches (.ref e) c) Q E s₁) E s
theorem noteX (R : RaisedSN base G (env :: outer) e cls news s'.heap) (hA : A.frames = some (env :: outer)) (hf : env.frame = some L) (hsm : G.UpToSlots s'.heap)
    (k : ∀ h', RaisedSN base G (env :: outer) e cls news h' → G.UpToSlots h' → wpAny (model prog w) A (handleBy (.ref e) env hs) Q E { s' with heap := h' }) :
    wpAny (model prog w) A (noteFrame (.ref e) env) (fun _ s₂ => wpAny (model prog w) A (setFlight (.ref e) none) (fun _ s₃ => wpAny (model prog w) A (handleBy (.ref e) env hs) Q E s₃) E s₂) E s' := by
  obtain ⟨B, a0, hB, hBG, hl, hfl⟩ := R
  refine wpAny_looks_onW hA hf hfl fun h₄ held up => ?_
  refine wpAny_landsW held fun h₅ fly up' => ?_
  exact k h₅ ⟨B, a0, hB, hBG, hl, fly⟩ (hsm.trans (up.trans up'))
theorem groundE {B h₅ : Heap} (hf : env.frame = some L) (K : Below A₀ base outer g) (F : Fr g L G m) (hBG : ∀ b o, G.get? b = some o → b ∉ (env :: outer).filterMap (·.frame) → B.get? b = some o) (hBh : B.StaysIn h₅) (hsm : G.UpToSlots h₅) :
    ∃ g', KtsTurn (outer.filterMap (·.frame)) g g' ∧ Fr g' L h₅ m ∧ Below A₀ base outer g' :=
  kts_ground (name := Str.ofString "") (scope := env.scope) (a := L) (cd := .none) K F (fun b o q nm => hBG b o q (by
    rw [List.filterMap_cons_some hf]
    exact nm)) hBh hsm
theorem passX (R : RaisedSN base G (env :: outer) e cls news s'.heap) (hf : env.frame = some L) (F : Fr g L G m) (K : Below A₀ base outer g) (hsm : G.UpToSlots s'.heap) (XB : KF.In base) (TB : Top p loose mean mg mb base)
    (T : TestX prog w KF p loose mg mb env L cls tt false)
    (k : ∀ h', RaisedSN base G (env :: outer) e cls news h' → G.UpToSlots h' → wpAny (model prog w) A (handleBy (.ref e) env rest) Q E { s' with heap := h' }) :
    wpAny (model prog w) A (handleBy (.ref e) env (.ExceptHandler (some tt) nm body pos :: rest)) Q E s' := by
  have R' := R
  obtain ⟨B, a0, hB, hBG, hl, hfl⟩ := R'
  obtain ⟨g₅, T₅, F₅, K₅⟩ := groundE hf K F hBG hfl.1 hsm
  refine wpAny_handleBy_cons (codeAny_handlers_test (T _ _ _ _ g₅ e m F₅ (XB.keeps K₅.stays) (topRead_of (TB.keeps K₅.stays)) R.ty fun h' kp => ?_)) (by intro q; cases q)
  exact k h' (R.keeps kp) (hsm.trans (Heap.UpToSlots.of_keeps kp))
theorem hitX (R : RaisedSN base G (env :: outer) e cls news s'.heap) (hf : env.frame = some L) (F : Fr g L G m) (K : Below A₀ base outer g) (hsm : G.UpToSlots s'.heap) (XB : KF.In base) (TB : Top p loose mean mg mb base)
    (D : KtsDicts (outer.filterMap (·.frame)) g) (T : TestX prog w KF p loose mg mb env L cls tt true)
    (k : ∀ h' g', KtsTurn (outer.filterMap (·.frame)) g g' → Fr g' L h' m → News g' L h' news → Below A₀ base outer g' → KF.In g' → Top p loose mean mg mb g' → KtsDicts (outer.filterMap (·.frame)) g' →
      wpAny (model prog w) (A.mark (some (.ref e))) (execs (b₀ :: suite) env) Q E { s' with heap := h' })
    (hE : PassesOwnAt (model prog w) (A.mark (some (.ref e))) A env E) :
    wpAny (model prog w) A (handleBy (.ref e) env (.ExceptHandler (some tt) none (b₀ :: suite) pos :: rest)) Q E s' := by
  have R' := R
  obtain ⟨B₁, a1, _, hBG₁, _, hfl₁⟩ := R'
  obtain ⟨g₅, T₅, F₅, K₅⟩ := groundE hf K F hBG₁ hfl₁.1 hsm
  refine wpAny_handleBy_cons (codeAny_handlers_test (T _ _ _ _ g₅ e m F₅ (XB.keeps K₅.stays) (topRead_of (TB.keeps K₅.stays)) R.ty fun h₅ kp => ?_)) (by intro q; cases q)
  have up : G.UpToSlots h₅ := hsm.trans (Heap.UpToSlots.of_keeps kp)
  obtain ⟨B, a0, hB, hBG, hl, held⟩ := R.keeps kp
  have hL : B.get? L = none := by
    obtain ⟨_, ⟨L', _, hf', hn', _⟩, _⟩ := held.2.2.1
    rw [hf] at hf'
    obtain rfl : L = L' := Option.some.inj hf'
    exact hn'
  refine codeAny_handlers_suite ?_
  refine lands_againW held fun h₆ fly up6 => ?_
  obtain ⟨g₆, T₆, F₆, K₆⟩ := groundE hf K F hBG fly.1 (up.trans up6)
  refine wpAny_passesOwnAt hE (k h₆ g₆ T₆ F₆ (fun q hq => ⟨fly.1 _ _ (hl q hq).1, fun z => ?_, T₆.none_ _ (kts_none F.keep (hl q hq).2.1)⟩) K₆ (XB.keeps K₆.stays) (TB.keeps K₆.stays) (D.turn T₆))
  have := (hl q hq).1
  rw [z, hL] at this
  cases this
theorem testX {K : Frag} {cn x : Str} {cs : Scope} {a : Addr} {ccd c : Value} {cl : List (Str × Addr)} {np : Pos} (hc : KtsName K x c) (he : exmOne K cls c = some b) (hk : cs.kind = .function) (hx : (envX cn cs L a ccd cl).kindOf x = some .globalImplicit) (hd : (x == ("__debug__" : Str)) = false) :
    TestX prog w K p loose mg mb (envX cn cs L a ccd cl) L cls (.Name x np) b := fun A E Q s g e m F X T LT q => by
  rcases hc with e1 | ⟨e1, hv, hn⟩
  · exact nameX_K F X T e1 ((exm_one (X.keeps F.keep) LT he).here (q s.heap fun _ _ z => z)) hk hx hd
  · exact nameX_B F X T e1 hv hn ((exm_one (X.keeps F.keep) LT he).here (q s.heap fun _ _ z => z)) hk hx hd
end
end Jn
end

section
namespace Mine01
open DivM Lp
/-- where a piece lies on the tape -/
def absP (S : Int) (q : Int × Int × List UInt8) : Int := q.1 * S + q.2.1
def layS (S o cnt : Int) (out : List UInt8) (q : Int × Int × List UInt8) : List UInt8 :=
  let a := absP S q - o
  let f := max a 0
  let e := min (a + q.2.2.length) cnt
  if f < e then out.take f.toNat ++ (q.2.2.drop (f - a).toNat).take ((e - a).toNat - (f - a).toNat) ++ out.drop e.toNat else out
theorem lookStep_lay {V P cnt S o : Int} {out : List UInt8} {q : Int × Int × List UInt8} (e : V * S + P = o) : lookStep V P cnt S out q = layS S o cnt out q := by
  have e1 : (q.1 - V) * S + q.2.1 - P = absP S q - o := by
    unfold absP
    rw [Int.sub_mul]
    (first | lia | omega)
  unfold lookStep layS
  rw [e1]
theorem tapeB_lay {size o cnt : Int} {ps : List (Int × Int × List UInt8)} : tapeB size ps o cnt = ps.foldl (layS size o cnt) (List.replicate cnt.toNat 0) := by
  unfold tapeB lookL
  congr 1
  funext out q
  exact lookStep_lay (by rw [Int.mul_comm]; exact Int.mul_ediv_add_emod o size)
theorem tapeB_snoc {size o cnt : Int} {ps : List (Int × Int × List UInt8)} {q : Int × Int × List UInt8} : tapeB size (ps ++ [q]) o cnt = layS size o cnt (tapeB size ps o cnt) q := by
  rw [tapeB_lay, tapeB_lay, List.foldl_append]
  rfl
theorem tapeB_nil {size o cnt : Int} : tapeB size [] o cnt = List.replicate cnt.toNat 0 := by
  rw [tapeB_lay]
  rfl
theorem tapeB_length {size o cnt : Int} {ps : List (Int × Int × List UInt8)} : (tapeB size ps o cnt).length = cnt.toNat := lookL_length ..
theorem lay_off {S o cnt : Int} {out : List UInt8} {q : Int × Int × List UInt8} (h : absP S q + q.2.2.length ≤ o ∨ o + cnt ≤ absP S q) : layS S o cnt out q = out := by
  unfold layS
  dsimp only
  rw [if_neg (by (first | lia | omega))]
theorem lay_on {S o cnt : Int} {out : List UInt8} {q : Int × Int × List UInt8} (h : absP S q = o) (h1 : (q.2.2.length : Int) = cnt) (h2 : out.length = cnt.toNat) (h0 : 0 < cnt) : layS S o cnt out q = q.2.2 := by
  unfold layS
  dsimp only
  rw [if_pos (by (first | lia | omega))]
  rw [show (max (absP S q - o) 0).toNat = 0 by (first | lia | omega), show (max (absP S q - o) 0 - (absP S q - o)).toNat = 0 by (first | lia | omega), List.take_zero, List.drop_zero, List.nil_append, List.take_of_length_le (by (first | lia | omega)), List.drop_of_length_le (by (first | lia | omega)), List.append_nil]
theorem hd_app {a b : List UInt8} (h : 0 < a.length) : (a ++ b).getD 0 0 = a.getD 0 0 := by
  cases a with
  | nil => simp at h
  | cons x r => rfl
theorem lay_hd_far {S o cnt : Int} {out : List UInt8} {q : Int × Int × List UInt8} (h : o < absP S q) (h2 : out.length = cnt.toNat) : (layS S o cnt out q).getD 0 0 = out.getD 0 0 := by
  unfold layS
  dsimp only
  split
  · rw [List.append_assoc, hd_app (by rw [List.length_take]; (first | lia | omega))]
    obtain ⟨n, hn⟩ : ∃ n, (max (absP S q - o) 0).toNat = n + 1 := ⟨(max (absP S q - o) 0).toNat - 1, by (first | lia | omega)⟩
    rw [hn]
    cases out with
    | nil => rfl
    | cons x r => rfl
  · rfl
theorem lay_hd_in {S o cnt : Int} {out : List UInt8} {q : Int × Int × List UInt8} (h : absP S q ≤ o) (h1 : o < absP S q + q.2.2.length) (h0 : 0 < cnt) : (layS S o cnt out q).getD 0 0 = q.2.2.getD (o - absP S q).toNat 0 := by
  unfold layS
  dsimp only
  have hm : 0 < min (absP S q - o + q.2.2.length) cnt := Int.lt_min.mpr ⟨by (first | lia | omega), h0⟩
  have e1 : max (absP S q - o) 0 = 0 := Int.max_eq_right (by (first | lia | omega))
  obtain ⟨k, hk⟩ := Int.eq_ofNat_of_zero_le (a := o - absP S q) (by (first | lia | omega))
  rw [e1, if_pos hm, show 0 - (absP S q - o) = (k : Int) by (first | lia | omega), hk]
  generalize min (absP S q - o + q.2.2.length) cnt = m at *
  generalize hl : q.2.2 = l at *
  obtain ⟨n, hn⟩ : ∃ n, (m - (absP S q - o)).toNat - k = n + 1 := ⟨(m - (absP S q - o)).toNat - k - 1, by (first | lia | omega)⟩
  have hk2 : k < l.length := by (first | lia | omega)
  simp only [Int.toNat_zero, Int.toNat_natCast, List.take_zero, List.nil_append]
  rw [hn, List.drop_eq_getElem_cons hk2, List.take_succ_cons]
  simp [List.getD, hk2]
theorem sig_hd {l : List UInt8} {a b c d : UInt8} (h : l.take 4 = [a, b, c, d]) : l.getD 0 0 = a := by
  cases l with
  | nil => cases h
  | cons x r => simp only [List.take_succ_cons, List.cons.injEq] at h; exact h.1

theorem lowL_succ (x : Int) (n : Nat) : lowL x (n + 1) = (x % 256).toNat.toUInt8 :: lowL (x / 256) n := by
  unfold lowL
  rw [List.range_succ_eq_map, List.map_cons, List.map_map]
  congr 1
  · simp
  · refine List.map_congr_left fun i _ => ?_
    show (x / 2 ^ (8 * (i + 1)) % 256).toNat.toUInt8 = (x / 256 / 2 ^ (8 * i) % 256).toNat.toUInt8
    rw [Int.ediv_ediv_of_nonneg (by (first | lia | omega)), show 8 * (i + 1) = 8 + 8 * i by (first | lia | omega), Int.pow_add]
    rfl
theorem mod_step (x m : Int) (h : 0 < m) : x / 256 % m * 256 + x % 256 = x % (256 * m) := by
  have a := Int.mul_ediv_add_emod (x / 256) m
  have b := Int.mul_ediv_add_emod x 256
  have c := Int.emod_nonneg (x / 256) (b := m) (by (first | lia | omega))
  have d := Int.emod_lt_of_pos (x / 256) h
  refine ((DivM.ediv_of (a := x) (b := 256 * m) (q := x / 256 / m) (r := x / 256 % m * 256 + x % 256) ?_ (by (first | lia | omega)) (by (first | lia | omega))).2).symm
  have e : x / 256 / m * (256 * m) = 256 * (m * (x / 256 / m)) := by
    rw [Int.mul_comm (x / 256 / m), Int.mul_assoc]
  rw [e]
  (first | lia | omega)
theorem leN_low (n : Nat) : ∀ x : Int, (Unp.leN (lowL x n) : Int) = x % 2 ^ (8 * n) := by
  induction n with
  | zero => intro x; simp [lowL, Unp.leN, Int.emod_one]
  | succ n ih =>
    intro x
    rw [lowL_succ]
    show (((Unp.leN (lowL (x / 256) n)) * 256 + ((x % 256).toNat.toUInt8).toNat : Nat) : Int) = _
    have e : ((x % 256).toNat.toUInt8).toNat = (x % 256).toNat := by
      rw [Nat.toUInt8, UInt8.toNat_ofNat']
      (first | lia | omega)
    rw [e, Int.natCast_add, Int.natCast_mul, ih, show 8 * (n + 1) = 8 + 8 * n by (first | lia | omega), Int.pow_add, show ((2 : Int) ^ 8) = 256 from rfl, ← mod_step _ _ (two_pow_pos _)]
    (first | lia | omega)
theorem sl_app {A B C : List UInt8} {i j : Nat} (ha : A.length = i) (hb : B.length = j - i) : Unp.sl (A ++ (B ++ C)) i j = (Unp.leN B : Nat) := by
  unfold Unp.sl
  rw [List.drop_left' ha, List.take_left' hb]
theorem sl_low {A C : List UInt8} {x : Int} {i j n : Nat} (ha : A.length = i) (hb : n = j - i) (h0 : 0 ≤ x) (h1 : x < 2 ^ (8 * n)) : Unp.sl (A ++ (lowL x n ++ C)) i j = x := by
  rw [sl_app ha (by rw [lowL_length, hb]), leN_low, Int.emod_eq_of_lt h0 h1]
/-- the locator -/
def locL (sg : List UInt8) (disk claimed disks : Int) : List UInt8 := sg ++ lowL disk 4 ++ lowL claimed 8 ++ lowL disks 4
section
variable {sg : List UInt8} {disk claimed disks : Int}
theorem loc_len (h : sg.length = 4) : (locL sg disk claimed disks).length = 20 := by simp [locL, lowL_length, h]
theorem loc_sig (h : sg.length = 4) : (locL sg disk claimed disks).take 4 = sg := by
  unfold locL
  rw [List.append_assoc, List.append_assoc, List.take_left' h]
theorem loc_disk (h : sg.length = 4) (h0 : 0 ≤ disk) (h1 : disk < 2 ^ 32) : Unp.sl (locL sg disk claimed disks) 4 8 = disk := by
  unfold locL
  rw [List.append_assoc, List.append_assoc]
  exact sl_low h rfl h0 h1
theorem loc_claim (h : sg.length = 4) (h0 : 0 ≤ claimed) (h1 : claimed < 2 ^ 64) : Unp.sl (locL sg disk claimed disks) 8 16 = claimed := by
  unfold locL
  rw [List.append_assoc]
  exact sl_low (by simp [lowL_length, h]) rfl h0 h1
theorem loc_disks (h : sg.length = 4) (h0 : 0 ≤ disks) (h1 : disks < 2 ^ 32) : Unp.sl (locL sg disk claimed disks) 16 20 = disks := by
  have := sl_low (A := sg ++ lowL disk 4 ++ lowL claimed 8) (C := []) (x := disks) (i := 16) (j := 20) (n := 4) (by simp [lowL_length, h]) rfl h0 h1
  rwa [List.append_nil] at this
variable {told f0 f1 f2 f3 f4 f5 : Int}
theorem rec_len (h : sg.length = 4) : (recL sg told [f0, f1, f2, f3, f4, f5]).length = 56 := by simp [recL, lowL_length, h]
theorem rec_app : recL sg told [f0, f1, f2, f3, f4, f5] = sg ++ (lowL told 8 ++ ([45, 0, 45, 0] ++ (lowL f0 4 ++ (lowL f1 4 ++ (lowL f2 8 ++ (lowL f3 8 ++ (lowL f4 8 ++ (lowL f5 8 ++ [])))))))) := by
  simp [recL]
theorem rec_sig (h : sg.length = 4) : (recL sg told [f0, f1, f2, f3, f4, f5]).take 4 = sg := by
  rw [rec_app, List.take_left' h]
theorem rec_told (h : sg.length = 4) (h0 : 0 ≤ told) (h1 : told < 2 ^ 64) : Unp.sl (recL sg told [f0, f1, f2, f3, f4, f5]) 4 12 = told := by
  rw [rec_app]
  exact sl_low h rfl h0 h1
theorem rec_f0 (h : sg.length = 4) (h0 : 0 ≤ f0) (h1 : f0 < 2 ^ 32) : Unp.sl (recL sg told [f0, f1, f2, f3, f4, f5]) 16 20 = f0 := by
  rw [rec_app, ← List.append_assoc, ← List.append_assoc]
  exact sl_low (by simp [lowL_length, h]) rfl h0 h1
theorem rec_f1 (h : sg.length = 4) (h0 : 0 ≤ f1) (h1 : f1 < 2 ^ 32) : Unp.sl (recL sg told [f0, f1, f2, f3, f4, f5]) 20 24 = f1 := by
  rw [rec_app, ← List.append_assoc, ← List.append_assoc, ← List.append_assoc]
  exact sl_low (by simp [lowL_length, h]) rfl h0 h1
theorem rec_f2 (h : sg.length = 4) (h0 : 0 ≤ f2) (h1 : f2 < 2 ^ 64) : Unp.sl (recL sg told [f0, f1, f2, f3, f4, f5]) 24 32 = f2 := by
  rw [rec_app, ← List.append_assoc, ← List.append_assoc, ← List.append_assoc, ← List.append_assoc]
  exact sl_low (by simp [lowL_length, h]) rfl h0 h1
theorem rec_f3 (h : sg.length = 4) (h0 : 0 ≤ f3) (h1 : f3 < 2 ^ 64) : Unp.sl (recL sg told [f0, f1, f2, f3, f4, f5]) 32 40 = f3 := by
  rw [rec_app, ← List.append_assoc, ← List.append_assoc, ← List.append_assoc, ← List.append_assoc, ← List.append_assoc]
  exact sl_low (by simp [lowL_length, h]) rfl h0 h1
theorem rec_f4 (h : sg.length = 4) (h0 : 0 ≤ f4) (h1 : f4 < 2 ^ 64) : Unp.sl (recL sg told [f0, f1, f2, f3, f4, f5]) 40 48 = f4 := by
  rw [rec_app, ← List.append_assoc, ← List.append_assoc, ← List.append_assoc, ← List.append_assoc, ← List.append_assoc, ← List.append_assoc]
  exact sl_low (by simp [lowL_length, h]) rfl h0 h1
theorem rec_f5 (h : sg.length = 4) (h0 : 0 ≤ f5) (h1 : f5 < 2 ^ 64) : Unp.sl (recL sg told [f0, f1, f2, f3, f4, f5]) 48 56 = f5 := by
  rw [rec_app, ← List.append_assoc, ← List.append_assoc, ← List.append_assoc, ← List.append_assoc, ← List.append_assoc, ← List.append_assoc, ← List.append_assoc]
  exact sl_low (by simp [lowL_length, h]) rfl h0 h1
end
end Mine01
end

section
namespace Mine01
open DivM Lp
theorem cells_two {cm : Str → Option Value} {n₁ n₂ : Str} {c₁ c₂ : Addr} {cells : List (Addr × Obj)} (x : CellsAre cm [(n₁, c₁), (n₂, c₂)] cells) :
    ∃ o₁ o₂, cells = [(c₁, o₁), (c₂, o₂)] ∧ o₁.data = .cell (cm n₁) ∧ o₂.data = .cell (cm n₂) := by
  cases x with
  | cons h r =>
    cases r with
    | cons h2 r2 =>
      cases r2
      exact ⟨_, _, rfl, h, h2⟩
theorem bits_of (a : Int) : -(2 ^ (Builtin.Int.intBits a)) < a ∧ a < 2 ^ (Builtin.Int.intBits a) := by
  by_cases h : a = 0
  · subst h
    exact ⟨by decide, by decide⟩
  · have e : Builtin.Int.intBits a = a.natAbs.log2 + 1 := by
      unfold Builtin.Int.intBits
      rw [show (a == 0) = false by simpa using h]
      rfl
    rw [e]
    have := Nat.lt_log2_self (n := a.natAbs)
    have h2 : (a.natAbs : Int) < 2 ^ (a.natAbs.log2 + 1) := by exact_mod_cast this
    (first | lia | omega)
theorem bits_quot {a k : Int} (hk : 0 < k) : (Builtin.Int.intBits (a.fdiv k) : Int) ≤ Builtin.Int.intBits a := by
  rw [Int.fdiv_eq_ediv_of_nonneg _ (by (first | lia | omega))]
  have h := bits_of a
  have e := Int.mul_ediv_add_emod a k
  have r0 := Int.emod_nonneg a (b := k) (by (first | lia | omega))
  have r1 := Int.emod_lt_of_pos a hk
  refine bits_abs ?_ ?_
  · by_cases hq : 0 ≤ a / k
    · have := two_pow_pos (Builtin.Int.intBits a); (first | lia | omega)
    · -- a / k ≥ a when negative
      have : k * (a / k) ≤ 1 * (a / k) := Int.mul_le_mul_of_nonpos_right (by (first | lia | omega)) (by (first | lia | omega))
      have : a ≤ a / k := by
        by_cases h1 : 0 ≤ a
        · have := Int.ediv_nonneg h1 (by (first | lia | omega) : 0 ≤ k); (first | lia | omega)
        · have k1 : k * (a / k) ≤ a := by (first | lia | omega)
          have := Int.le_ediv_of_mul_le hk (a := a) (b := a) (by
            have : a * k ≤ a * 1 := Int.mul_le_mul_of_nonpos_left (by (first | lia | omega)) (by (first | lia | omega))
            (first | lia | omega))
          exact this
      (first | lia | omega)
  · by_cases hq : 0 < a / k
    · have : 1 * (a / k) ≤ k * (a / k) := Int.mul_le_mul_of_nonneg_right (by (first | lia | omega)) (by (first | lia | omega))
      (first | lia | omega)
    · have := two_pow_pos (Builtin.Int.intBits a); (first | lia | omega)
/-- under a lid, so that (first | lia | omega) does not look into it -/
def IsPow (v b : Int) : Prop := v = 2 ^ b.toNat
theorem pow64 {v : Int} (h : IsPow v 64) : v = 2 ^ 64 := h
theorem pow32 {v : Int} (h : IsPow v 32) : v = 2 ^ 32 := h
theorem pow_two_le {b : Int} (h : 0 < b) : 2 ≤ (2 : Int) ^ b.toNat := by
  rw [show b.toNat = (b - 1).toNat + 1 by (first | lia | omega), Int.pow_succ]
  have := two_pow_pos (b - 1).toNat
  (first | lia | omega)
theorem pow_gt {b : Int} (h : 0 < b) : b < (2 : Int) ^ b.toNat := by
  have : b.toNat < 2 ^ b.toNat := Nat.lt_two_pow_self
  have h2 : ((b.toNat : Nat) : Int) < (2 : Int) ^ b.toNat := by exact_mod_cast this
  (first | lia | omega)
theorem my_pow {prog : Program} {w : World} {A : Around} {E : Value → Shared → Prop} {s : Shared} {b : Int} {t u : Tok} {Q : Value → Shared → Prop} (h0 : 0 < b) (h1 : b ≤ 60000) (h : ∀ v : Int, 2 ≤ v ∧ b < v → IsPow v b → Q (.int v s.toks) { s with toks := s.toks + 1 }) :
    wpAny (model prog w) A (binaryOp .Pow (.int 2 t) (.int b u)) Q E s :=
  pow_int_small (by (first | lia | omega)) (by (first | lia | omega)) (by decide) (h _ ⟨pow_two_le h0, pow_gt h0⟩ rfl)
theorem my_mod {prog : Program} {w : World} {A : Around} {E : Value → Shared → Prop} {s : Shared} {a b : Int} {t u : Tok} {Q : Value → Shared → Prop} (h0 : 0 < b) (h : ∀ v : Int, v = a % b → 0 ≤ v → v < b → Q (.int v s.toks) { s with toks := s.toks + 1 }) :
    wpAny (model prog w) A (binaryOp .Mod (.int a t) (.int b u)) Q E s :=
  mod_int' (by (first | lia | omega)) (h _ (Int.fmod_eq_emod_of_nonneg _ (by (first | lia | omega))) (Int.fmod_nonneg_of_pos _ h0) (Int.fmod_lt_of_pos _ h0))
theorem my_fdiv {prog : Program} {w : World} {A : Around} {E : Value → Shared → Prop} {s : Shared} {a b : Int} {t u : Tok} {Q : Value → Shared → Prop} (h0 : 0 < b) (hs : b < 1073741824) (h : ∀ v : Int, v = a / b → (Builtin.Int.intBits v : Int) ≤ Builtin.Int.intBits a → Q (.int v s.toks) { s with toks := s.toks + 1 }) :
    wpAny (model prog w) A (binaryOp .FloorDiv (.int a t) (.int b u)) Q E s :=
  floordiv_int (by (first | lia | omega)) (h _ (Int.fdiv_eq_ediv_of_nonneg _ (by (first | lia | omega))) (bits_quot h0)) (.inl (PyProof.noPylong_small (by (first | lia | omega))))
theorem pow_dbl {v v' b : Int} (h : IsPow v b) (h' : IsPow v' (b - 1)) (hb : 0 < b) : v = 2 * v' := by
  unfold IsPow at h h'
  rw [h, h', show b.toNat = (b - 1).toNat + 1 by (first | lia | omega), Int.pow_succ]
  (first | lia | omega)
theorem pow_le' {v b : Int} {n : Nat} (h : IsPow v b) (hb : (n : Int) ≤ b) : 2 ^ n ≤ v := by
  unfold IsPow at h
  rw [h]
  exact_mod_cast Nat.pow_le_pow_right (by decide) (by (first | lia | omega) : n ≤ b.toNat)
theorem pow_bits {v b x : Int} (h : IsPow v b) (hb : 0 ≤ b) (h0 : -v < x) (h1 : x < v) : (Builtin.Int.intBits x : Int) ≤ b := by
  unfold IsPow at h
  have := bits_abs (a := x) (m := b.toNat) (by (first | lia | omega)) (by (first | lia | omega))
  (first | lia | omega)
/-- the numbers of a tape -/
structure SizeOk (bi z : Int) : Prop where
  b0 : 4100 ≤ bi
  b1 : bi ≤ 4499
  lo : 2 ^ (bi.toNat - 1) ≤ z
  hi : z < 2 ^ bi.toNat
  big : 2 ^ 70 ≤ z
  bz : (Builtin.Int.intBits z : Int) ≤ 4499
theorem size_ok {bi v v' r : Int} (b0 : 4100 ≤ bi) (b1 : bi ≤ 4499) (h : IsPow v bi) (h' : IsPow v' (bi - 1)) (r0 : 0 ≤ r) (r1 : r < v') : SizeOk bi (v - 1 - r) := by
  have e := pow_dbl h h' (by (first | lia | omega))
  have g := pow_le' (n := 70) h' (by (first | lia | omega))
  refine ⟨b0, b1, ?_, ?_, by (first | lia | omega), ?_⟩
  · unfold IsPow at h'
    rw [show bi.toNat - 1 = (bi - 1).toNat by (first | lia | omega), ← h']
    (first | lia | omega)
  · unfold IsPow at h
    rw [← h]
    (first | lia | omega)
  · have := pow_bits (x := v - 1 - r) h (by (first | lia | omega)) (by (first | lia | omega)) (by (first | lia | omega))
    (first | lia | omega)
structure VolOk (bi z V P : Int) : Prop where
  v0 : 0 ≤ V
  v1 : V < 2 ^ bi.toNat
  p0 : 0 ≤ P
  p1 : P < z
  bv : (Builtin.Int.intBits V : Int) ≤ 4499
  zero : V = 0 → P < 400
theorem vol_ok {bi z V r P v v' : Int} (h : IsPow v' bi) (h' : IsPow v bi) (b0 : 4100 ≤ bi) (b1 : bi ≤ 4499) (r0 : 0 ≤ r ∧ r < v - 1) (hV : V = v' - 1 - r) (p0 : 0 ≤ P) (p1 : P < z) : VolOk bi z V P := by
  have e : v' = v := by unfold IsPow at h h'; rw [h, h']
  refine ⟨by (first | lia | omega), ?_, p0, p1, ?_, by (first | lia | omega)⟩
  · unfold IsPow at h; rw [← h]; (first | lia | omega)
  · have := pow_bits (x := V) h (by (first | lia | omega)) (by (first | lia | omega)) (by (first | lia | omega))
    (first | lia | omega)
theorem vol_zero {bi z P : Int} (p0 : 0 ≤ P) (p1 : P < 400) (hz : 2 ^ 70 ≤ z) : VolOk bi z 0 P :=
  ⟨by (first | lia | omega), two_pow_pos _, p0, by (first | lia | omega), by (have : (Builtin.Int.intBits 0 : Int) = 0 := by decide +kernel); (first | lia | omega), fun _ => p1⟩
structure EndOk (z V P e : Int) : Prop where
  ee : e = V * z + P
  e0 : 0 ≤ e
  zero : V = 0 → e = P
  big : 0 < V → z ≤ e
theorem end_ok {bi z V P : Int} (h : VolOk bi z V P) (hz : 2 ^ 70 ≤ z) : EndOk z V P (V * z + P) := by
  have p0 := h.p0
  have a := Int.mul_nonneg h.v0 (by (first | lia | omega) : 0 ≤ z)
  refine ⟨rfl, by (first | lia | omega), fun q => by rw [q, Int.zero_mul]; (first | lia | omega), fun q => ?_⟩
  have : 1 * z ≤ V * z := Int.mul_le_mul_of_nonneg_right (by (first | lia | omega)) (by (first | lia | omega))
  (first | lia | omega)
theorem step_ok {v : Int} (h : IsPow v 2050) (h2 : 2 ≤ v) : 0 < v + 1 ∧ (Builtin.Int.intBits (v + 1) : Int) ≤ 2051 := by
  have h' : v + 1 < 2 ^ 2051 := by
    unfold IsPow at h
    rw [h]
    decide +kernel
  exact ⟨by (first | lia | omega), pow_bits (b := 2051) (v := 2 ^ 2051) (by unfold IsPow; rfl) (by decide) (by generalize (2 : Int) ^ 2051 = y at *; (first | lia | omega)) h'⟩
structure Facts (f0 f1 f2 f3 ln cd : Int) : Prop where
  a0 : 0 ≤ f0 ∧ f0 < 2 ^ 32
  a1 : 0 ≤ f1 ∧ f1 < 2 ^ 32
  a2 : 0 ≤ f2 ∧ f2 < 2 ^ 64
  a3 : 0 ≤ f3 ∧ f3 < 2 ^ 64
  a4 : 0 ≤ ln ∧ ln ≤ cd
abbrev Rec := Int × Int × List Int
/-- the ledger bears the records -/
inductive RecAt (news : List (Addr × Obj)) (v : Option Value) (q : Rec) : Prop
  | mk (a b : Addr) (tw ts : Tok) (c c' : Nat) (f0 f1 f2 f3 f4 f5 : Int) (t0 t1 t2 t3 t4 t5 : Tok) (e1 : v = some (Value.ref a)) (e2 : q.2.2 = [f0, f1, f2, f3, f4, f5])
    (e3 : (a, ({ cls := .type "tuple", data := .seq #[.int q.1 tw, .int q.2.1 ts, .ref b] c } : Obj)) ∈ news) (e4 : (b, listOf #[.int f0 t0, .int f1 t1, .int f2 t2, .int f3 t3, .int f4 t4, .int f5 t5] c') ∈ news) : RecAt news v q
def RecsAre (news : List (Addr × Obj)) (vs : List Value) (rs : List Rec) : Prop :=
  vs.length = rs.length ∧ ∀ (i : Nat) (q : Rec), rs[i]? = some q → RecAt news vs[i]? q
theorem recs_nil {news : List (Addr × Obj)} : RecsAre news [] [] := ⟨rfl, fun i q h => by simp at h⟩
theorem pieces_nil {news : List (Addr × Obj)} : PiecesAre news [] [] := ⟨rfl, fun i q h => by simp at h⟩
theorem recs_mono {news news' : List (Addr × Obj)} {vs : List Value} {rs : List Rec} (h : RecsAre news vs rs) (hs : ∀ q ∈ news, q ∈ news') : RecsAre news' vs rs :=
  ⟨h.1, fun i q e => let ⟨a, b, tw, ts, c, c', f0, f1, f2, f3, f4, f5, t0, t1, t2, t3, t4, t5, e1, e2, e3, e4⟩ := h.2 i q e; ⟨a, b, tw, ts, c, c', f0, f1, f2, f3, f4, f5, t0, t1, t2, t3, t4, t5, e1, e2, hs _ e3, hs _ e4⟩⟩
theorem pieces_snoc {news : List (Addr × Obj)} {vs : List Value} {ps : List (Int × Int × List UInt8)} (h : PiecesAre news vs ps) {a : Addr} {w st : Int} {d : List UInt8} {tw ts td : Tok} {c : Nat}
    (hm : (a, ({ cls := .type "tuple", data := .seq #[.int w tw, .int st ts, .bytes d.toArray td] c } : Obj)) ∈ news) : PiecesAre news (vs ++ [.ref a]) (ps ++ [(w, st, d)]) := by
  refine ⟨by simp [h.1], fun i q e => ?_⟩
  rw [List.getElem?_append] at e
  split at e
  · obtain ⟨a', tw, ts, td, c, e1, e2⟩ := h.2 i q e
    exact ⟨a', tw, ts, td, c, by rw [List.getElem?_append_left (by rw [h.1]; assumption)]; exact e1, e2⟩
  · have hi : i = ps.length := by
      have := List.getElem?_eq_some_iff.mp e
      obtain ⟨hl, _⟩ := this
      simp at hl
      (first | lia | omega)
    subst hi
    simp at e
    subst e
    exact ⟨a, tw, ts, td, c, by rw [← h.1]; simp, hm⟩
theorem recs_snoc {news : List (Addr × Obj)} {vs : List Value} {rs : List Rec} (h : RecsAre news vs rs) {a b : Addr} {sp lg f0 f1 f2 f3 f4 f5 : Int} {tw ts t0 t1 t2 t3 t4 t5 : Tok} {c c' : Nat}
    (hm : (a, ({ cls := .type "tuple", data := .seq #[.int sp tw, .int lg ts, .ref b] c } : Obj)) ∈ news) (hm2 : (b, listOf #[.int f0 t0, .int f1 t1, .int f2 t2, .int f3 t3, .int f4 t4, .int f5 t5] c') ∈ news) :
    RecsAre news (vs ++ [.ref a]) (rs ++ [(sp, lg, [f0, f1, f2, f3, f4, f5])]) := by
  refine ⟨by simp [h.1], fun i q e => ?_⟩
  rw [List.getElem?_append] at e
  split at e
  · obtain ⟨a', b', tw, ts, c, c', f0, f1, f2, f3, f4, f5, t0, t1, t2, t3, t4, t5, e1, e2, e3, e4⟩ := h.2 i q e
    exact ⟨a', b', tw, ts, c, c', f0, f1, f2, f3, f4, f5, t0, t1, t2, t3, t4, t5, by rw [List.getElem?_append_left (by rw [h.1]; assumption)]; exact e1, e2, e3, e4⟩
  · have hi : i = rs.length := by
      have := List.getElem?_eq_some_iff.mp e
      obtain ⟨hl, _⟩ := this
      simp at hl
      (first | lia | omega)
    subst hi
    simp at e
    subst e
    exact ⟨a, b, tw, ts, c, c', f0, f1, f2, f3, f4, f5, t0, t1, t2, t3, t4, t5, by rw [← h.1]; simp, rfl, hm, hm2⟩
theorem my_xor {prog : Program} {w : World} {A : Around} {E : Value → Shared → Prop} {s : Shared} {a : Int} {t u : Tok} {Q : Value → Shared → Prop} (h : ∀ v : Int, v = a + 1 - 2 * (a % 2) → Q (.int v s.toks) { s with toks := s.toks + 1 }) :
    wpAny (model prog w) A (binaryOp .BitXor (.int a t) (.int 1 u)) Q E s :=
  xor_int (h _ (by unfold Builtin.bitXor; rw [bitOr_and, bitAnd_m1]; (first | lia | omega)))
/-- what the tape tells at a place where a record may stand -/
def Told (T : Int → Int → List UInt8) (rs : List Rec) (o : Int) : Prop :=
  (rs.filter (fun x => x.1 == o) = [] ∧ (T o 56).take 4 ≠ [80, 75, 6, 6]) ∨
  ∃ lg f0 f1 f2 f3 f4 f5 : Int, rs.filter (fun x => x.1 == o) = [(o, lg, [f0, f1, f2, f3, f4, f5])] ∧ T o 56 = recL [80, 75, 6, 6] lg [f0, f1, f2, f3, f4, f5] ∧ (0 ≤ lg ∧ lg < 2 ^ 64) ∧ (0 ≤ f0 ∧ f0 < 2 ^ 32) ∧ (0 ≤ f1 ∧ f1 < 2 ^ 32) ∧ (0 ≤ f2 ∧ f2 < 2 ^ 64) ∧ (0 ≤ f3 ∧ f3 < 2 ^ 64) ∧ (0 ≤ f4 ∧ f4 < 2 ^ 64) ∧ (0 ≤ f5 ∧ f5 < 2 ^ 64)
/-- the pieces and the records so far -/
structure LaidOk (bi z e ga cd : Int) (n : Nat) (ps : List (Int × Int × List UInt8)) (rs : List Rec) : Prop where
  n1 : ps.length ≤ n
  n2 : rs.length ≤ n
  okp : ∀ q ∈ ps, 0 ≤ q.1 ∧ q.1 < 2 ^ bi.toNat ∧ q.2.2.length ≤ 100
  home : n = 1 → ∀ r ∈ rs, r.1 = e - 76 - ga
  tc : cd ≤ e - 76 → Told (tapeB z ps) rs cd
  tl : cd ≤ e - 76 → Told (tapeB z ps) rs (e - 76)
/-- the ledger's further part -/
structure Six (nx news : List (Addr × Obj)) (a b c d e : Addr) : Prop where
  sub : ∀ q ∈ news, q ∈ nx
  na : ∀ q ∈ nx, q.1 ≠ a
  nb : ∀ q ∈ nx, q.1 ≠ b
  nc : ∀ q ∈ nx, q.1 ≠ c
  nd : ∀ q ∈ nx, q.1 ≠ d
  ne : ∀ q ∈ nx, q.1 ≠ e
  n0 : ∀ q ∈ nx, q.1 ≠ 153
theorem rec_get {x : UInt8} {told f0 f1 f2 f3 f4 f5 : Int} {k : Nat} (h0 : 0 < k) (h : k ≤ 3) (hx : x ≠ 80) : (recL [80, 75, 6, x] told [f0, f1, f2, f3, f4, f5]).getD k 0 ≠ 80 := by
  rw [rec_app]
  match k, h0, h with
  | 1, _, _ => exact (by decide : (75 : UInt8) ≠ 80)
  | 2, _, _ => exact (by decide : (6 : UInt8) ≠ 80)
  | 3, _, _ => exact hx
section
variable {z o home cd lg f0 f1 f2 f3 f4 f5 : Int} {ps : List (Int × Int × List UInt8)} {q : Int × Int × List UInt8} {rs : List Rec}
theorem one_eq {o cnt : Int} : tapeB z [q] o cnt = layS z o cnt (List.replicate cnt.toNat 0) q := by
  have := tapeB_snoc (size := z) (o := o) (cnt := cnt) (ps := []) (q := q)
  rw [tapeB_nil] at this
  exact this
theorem far_sig {x : UInt8} (hx : x ≠ 80) (ha : absP z q = home) (hq : q.2.2 = recL [80, 75, 6, x] lg [f0, f1, f2, f3, f4, f5]) (ho : o ≤ home + 3) (hne : o ≠ home) : (tapeB z [q] o 56).take 4 ≠ [80, 75, 6, 6] := by
  intro h
  have h1 := sig_hd h
  rw [one_eq] at h1
  by_cases hl : o < home
  · rw [lay_hd_far (by (first | lia | omega)) (by simp)] at h1
    revert h1
    decide
  · rw [lay_hd_in (by (first | lia | omega)) (by rw [hq, rec_len (by rfl)]; (first | lia | omega)) (by decide), hq] at h1
    exact rec_get (by (first | lia | omega)) (by (first | lia | omega)) hx h1
theorem on_sig {sg : List UInt8} (hs : sg.length = 4) (ha : absP z q = o) (hq : q.2.2 = recL sg lg [f0, f1, f2, f3, f4, f5]) : tapeB z [q] o 56 = recL sg lg [f0, f1, f2, f3, f4, f5] := by
  rw [one_eq, lay_on ha (by rw [hq, rec_len hs]; rfl) (by simp) (by decide), hq]
theorem told_nil : Told (tapeB z []) [] o := by
  refine .inl ⟨rfl, ?_⟩
  rw [tapeB_nil]
  decide
theorem told_bad (ha : absP z q = home) (hq : q.2.2 = recL [80, 75, 6, 5] lg [f0, f1, f2, f3, f4, f5]) (ho : o ≤ home + 3) : Told (tapeB z [q]) [] o := by
  refine .inl ⟨rfl, ?_⟩
  by_cases h : o = home
  · rw [on_sig (by rfl) (by (first | lia | omega)) hq, rec_sig (by rfl)]
    decide
  · exact far_sig (by decide) ha hq ho h
/-- a record's numbers fit -/
structure Fits (lg f0 f1 f2 f3 f4 f5 : Int) : Prop where
  l : 0 ≤ lg ∧ lg < 2 ^ 64
  a0 : 0 ≤ f0 ∧ f0 < 2 ^ 32
  a1 : 0 ≤ f1 ∧ f1 < 2 ^ 32
  a2 : 0 ≤ f2 ∧ f2 < 2 ^ 64
  a3 : 0 ≤ f3 ∧ f3 < 2 ^ 64
  a4 : 0 ≤ f4 ∧ f4 < 2 ^ 64
  a5 : 0 ≤ f5 ∧ f5 < 2 ^ 64
theorem told_good (ha : absP z q = home) (hq : q.2.2 = recL [80, 75, 6, 6] lg [f0, f1, f2, f3, f4, f5]) (hf : Fits lg f0 f1 f2 f3 f4 f5) (ho : o ≤ home + 3) : Told (tapeB z [q]) [(home, lg, [f0, f1, f2, f3, f4, f5])] o := by
  by_cases h : o = home
  · subst h
    exact .inr ⟨lg, f0, f1, f2, f3, f4, f5, by simp, on_sig (by rfl) ha hq, hf.l, hf.a0, hf.a1, hf.a2, hf.a3, hf.a4, hf.a5⟩
  · refine .inl ⟨?_, far_sig (by decide) ha hq ho h⟩
    have : (home == o) = false := by simp; (first | lia | omega)
    simp [this]
theorem told_off (h : Told (tapeB z ps) rs o) (hd : absP z q + q.2.2.length ≤ o ∨ o + 56 ≤ absP z q) : Told (tapeB z (ps ++ [q])) rs o := by
  have e : tapeB z (ps ++ [q]) o 56 = tapeB z ps o 56 := by rw [tapeB_snoc, lay_off hd]
  unfold Told
  rw [e]
  exact h
theorem told_more {r : Rec} (h : Told (tapeB z ps) rs o) (hr : r.1 ≠ o) : Told (tapeB z ps) (rs ++ [r]) o := by
  have e : (rs ++ [r]).filter (fun x => x.1 == o) = rs.filter (fun x => x.1 == o) := by
    have : (r.1 == o) = false := by simpa using hr
    simp [List.filter_append, this]
  unfold Told
  rw [e]
  exact h
theorem told_second (hr : ∀ r ∈ rs, r.1 ≠ cd) (ha : absP z q = cd) (hq : q.2.2 = recL [80, 75, 6, 6] lg [f0, f1, f2, f3, f4, f5]) (hf : Fits lg f0 f1 f2 f3 f4 f5) :
    Told (tapeB z (ps ++ [q])) (rs ++ [(cd, lg, [f0, f1, f2, f3, f4, f5])]) cd := by
  refine .inr ⟨lg, f0, f1, f2, f3, f4, f5, ?_, ?_, hf.l, hf.a0, hf.a1, hf.a2, hf.a3, hf.a4, hf.a5⟩
  · rw [List.filter_append, List.filter_eq_nil_iff.mpr fun r h => by simpa using hr r h]
    simp
  · rw [tapeB_snoc, lay_on ha (by rw [hq, rec_len (by rfl)]; rfl) tapeB_length (by decide), hq]
end
theorem back_in {B V z P V' P' n : Int} (h0 : 0 ≤ V) (h1 : V < B) (e : V' * z + P' = V * z + P - n) (p0 : 0 ≤ P') (p1 : P' < z) (q1 : P < z) (hn : 0 ≤ n) (hz : 0 ≤ V * z + P - n) : 0 ≤ V' ∧ V' < B := by
  constructor
  · by_cases h : 0 ≤ V'
    · exact h
    · have : V' * z ≤ -1 * z := Int.mul_le_mul_of_nonneg_right (by (first | lia | omega)) (by (first | lia | omega))
      (first | lia | omega)
  · by_cases h : V' < B
    · exact h
    · have : (V + 1) * z ≤ V' * z := Int.mul_le_mul_of_nonneg_right (by (first | lia | omega)) (by (first | lia | omega))
      rw [Int.add_mul] at this
      (first | lia | omega)
section
variable {bi z e ga cd V P V' P' lg f0 f1 f2 f3 f4 f5 : Int}
theorem laid_none : LaidOk bi z e ga cd 1 [] [] :=
  ⟨by simp, by simp, by simp, by simp, fun _ => told_nil, fun _ => told_nil⟩
theorem laid_bad (hv : VolOk bi z V P) (he : EndOk z V P e) (hg : 0 ≤ ga ∧ ga ≤ 3) (hh : 0 ≤ e - 76 - ga) (eV : V' * z + P' = V * z + P - (76 + ga)) (p0 : 0 ≤ P') (p1 : P' < z) :
    LaidOk bi z e ga cd 1 [(V', P', recL [80, 75, 6, 5] lg [f0, f1, f2, f3, f4, f5])] [] := by
  have ee := he.ee
  have hb := back_in hv.v0 hv.v1 eV p0 p1 hv.p1 (by (first | lia | omega)) (by (first | lia | omega))
  have ha : absP z (V', P', recL [80, 75, 6, 5] lg [f0, f1, f2, f3, f4, f5]) = e - 76 - ga := by unfold absP; dsimp only; (first | lia | omega)
  refine ⟨by simp, by simp, ?_, by simp, fun h => told_bad ha rfl (by (first | lia | omega)), fun h => told_bad ha rfl (by (first | lia | omega))⟩
  intro q hq
  rw [List.mem_singleton.mp hq]
  exact ⟨hb.1, hb.2, by dsimp only; rw [rec_len (by rfl)]; (first | lia | omega)⟩
theorem laid_good (hv : VolOk bi z V P) (he : EndOk z V P e) (hg : 0 ≤ ga ∧ ga ≤ 3) (hh : 0 ≤ e - 76 - ga) (eV : V' * z + P' = V * z + P - (76 + ga)) (p0 : 0 ≤ P') (p1 : P' < z) (hf : Fits lg f0 f1 f2 f3 f4 f5) :
    LaidOk bi z e ga cd 1 [(V', P', recL [80, 75, 6, 6] lg [f0, f1, f2, f3, f4, f5])] [(e - 76 - ga, lg, [f0, f1, f2, f3, f4, f5])] := by
  have ee := he.ee
  have hb := back_in hv.v0 hv.v1 eV p0 p1 hv.p1 (by (first | lia | omega)) (by (first | lia | omega))
  have ha : absP z (V', P', recL [80, 75, 6, 6] lg [f0, f1, f2, f3, f4, f5]) = e - 76 - ga := by unfold absP; dsimp only; (first | lia | omega)
  refine ⟨by simp, by simp, ?_, ?_, fun h => told_good ha rfl hf (by (first | lia | omega)), fun h => told_good ha rfl hf (by (first | lia | omega))⟩
  · intro q hq
    rw [List.mem_singleton.mp hq]
    exact ⟨hb.1, hb.2, by dsimp only; rw [rec_len (by rfl)]; (first | lia | omega)⟩
  · intro _ r hr
    rw [List.mem_singleton.mp hr]
variable {ps : List (Int × Int × List UInt8)} {rs : List Rec}
theorem laid_up (h : LaidOk bi z e ga cd 1 ps rs) : LaidOk bi z e ga cd 2 ps rs :=
  ⟨Nat.le_succ_of_le h.n1, Nat.le_succ_of_le h.n2, h.okp, by simp, h.tc, h.tl⟩
theorem laid_two (h : LaidOk bi z e ga cd 1 ps rs) (hz : 2 ^ 70 ≤ z) (hg : 0 ≤ ga) (hc : 0 ≤ cd) (hd : 56 ≤ e - 76 - ga - cd) (hf : Fits lg f0 f1 f2 f3 f4 f5) :
    LaidOk bi z e ga cd 2 (ps ++ [(0, cd, recL [80, 75, 6, 6] lg [f0, f1, f2, f3, f4, f5])]) (rs ++ [(cd, lg, [f0, f1, f2, f3, f4, f5])]) := by
  have ha : absP z (0, cd, recL [80, 75, 6, 6] lg [f0, f1, f2, f3, f4, f5]) = cd := by unfold absP; dsimp only; (first | lia | omega)
  refine ⟨by simpa using h.n1, by simpa using h.n2, ?_, by simp, fun hl => told_second (fun r hr => ?_) ha rfl hf, fun hl => told_more (told_off (h.tl hl) (.inl ?_)) ?_⟩
  · intro q hq
    rcases List.mem_append.mp hq with hq | hq
    · exact h.okp q hq
    · rw [List.mem_singleton.mp hq]
      exact ⟨Int.le_refl _, two_pow_pos _, by dsimp only; rw [rec_len (by rfl)]; (first | lia | omega)⟩
  · have := h.home rfl r hr
    (first | lia | omega)
  · rw [ha]
    dsimp only
    rw [rec_len (by rfl)]
    (first | lia | omega)
  · show cd ≠ e - 76
    (first | lia | omega)
theorem laid_loc {sg : List UInt8} {di ds : Int} (hs : sg.length = 4) (h : LaidOk bi z e ga cd 2 ps rs) (hv : VolOk bi z V P) (he : EndOk z V P e) (h20 : 20 ≤ e) (eV : V' * z + P' = V * z + P - 20) (p0 : 0 ≤ P') (p1 : P' < z) :
    LaidOk bi z e ga cd 3 (ps ++ [(V', P', locL sg di cd ds)]) rs ∧ tapeB z (ps ++ [(V', P', locL sg di cd ds)]) (e - 20) 20 = locL sg di cd ds := by
  have ee := he.ee
  have hb := back_in hv.v0 hv.v1 eV p0 p1 hv.p1 (by (first | lia | omega)) (by (first | lia | omega))
  have ha : absP z (V', P', locL sg di cd ds) = e - 20 := by unfold absP; dsimp only; (first | lia | omega)
  refine ⟨⟨by simpa using h.n1, Nat.le_succ_of_le h.n2, ?_, by simp, fun hl => told_off (h.tc hl) (.inr (by (first | lia | omega))), fun hl => told_off (h.tl hl) (.inr (by (first | lia | omega)))⟩, ?_⟩
  · intro q hq
    rcases List.mem_append.mp hq with hq | hq
    · exact h.okp q hq
    · rw [List.mem_singleton.mp hq]
      exact ⟨hb.1, hb.2, by dsimp only; rw [loc_len hs]; (first | lia | omega)⟩
  · rw [tapeB_snoc, lay_on ha (by dsimp only; rw [loc_len hs]; rfl) tapeB_length (by decide)]
theorem laid_noloc (h : LaidOk bi z e ga cd 2 ps rs) : LaidOk bi z e ga cd 3 ps rs :=
  ⟨Nat.le_succ_of_le h.n1, Nat.le_succ_of_le h.n2, h.okp, by simp, h.tc, h.tl⟩
end
theorem pieces_push {nx news : List (Addr × Obj)} {aL : Array Value} {ps : List (Int × Int × List UInt8)} (h : PiecesAre nx aL.toList ps) (hs : ∀ q ∈ nx, q ∈ news) {a : Addr} {w st : Int} {d : List UInt8} {tw ts td : Tok} {c : Nat}
    (hm : (a, ({ cls := .type "tuple", data := .seq #[.int w tw, .int st ts, .bytes d.toArray td] c } : Obj)) ∈ news) : PiecesAre news (aL.push (.ref a)).toList (ps ++ [(w, st, d)]) := by
  rw [Array.toList_push]
  exact pieces_snoc (piecesAre_mono h hs) hm
theorem recs_push {nx news : List (Addr × Obj)} {aR : Array Value} {rs : List Rec} (h : RecsAre nx aR.toList rs) (hs : ∀ q ∈ nx, q ∈ news) {a b : Addr} {sp lg f0 f1 f2 f3 f4 f5 : Int} {tw ts t0 t1 t2 t3 t4 t5 : Tok} {c c' : Nat}
    (hm : (a, ({ cls := .type "tuple", data := .seq #[.int sp tw, .int lg ts, .ref b] c } : Obj)) ∈ news) (hm2 : (b, listOf #[.int f0 t0, .int f1 t1, .int f2 t2, .int f3 t3, .int f4 t4, .int f5 t5] c') ∈ news) :
    RecsAre news (aR.push (.ref a)).toList (rs ++ [(sp, lg, [f0, f1, f2, f3, f4, f5])]) := by
  rw [Array.toList_push]
  exact recs_snoc (recs_mono h hs) hm hm2
/-- the ledger but for six places -/
def sixL (all : List (Addr × Obj)) (a b c d e : Nat) : List (Addr × Obj) := all.filter fun q => !((q.1 : Nat) == a || (q.1 : Nat) == b || (q.1 : Nat) == c || (q.1 : Nat) == d || (q.1 : Nat) == e || (q.1 : Nat) == 153)
theorem sixL_mem {all : List (Addr × Obj)} {a b c d e : Addr} {q : Addr × Obj} (h : q ∈ all) (ha : q.1 ≠ a) (hb : q.1 ≠ b) (hc : q.1 ≠ c) (hd : q.1 ≠ d) (he : q.1 ≠ e) (h0 : q.1 ≠ 153) : q ∈ sixL all a b c d e := by
  unfold sixL
  rw [List.mem_filter]
  refine ⟨h, ?_⟩
  have ha : (q.1 : Nat) ≠ a := ha
  have hb : (q.1 : Nat) ≠ b := hb
  have hc : (q.1 : Nat) ≠ c := hc
  have hd : (q.1 : Nat) ≠ d := hd
  have he : (q.1 : Nat) ≠ e := he
  have h0 : (q.1 : Nat) ≠ 153 := h0
  simp [ha, hb, hc, hd, he, h0]
theorem sixL_six {all news : List (Addr × Obj)} {a b c d e : Addr} (h : ∀ q ∈ news, q ∈ all) (H : Six news news a b c d e) : Six (sixL all a b c d e) news a b c d e := by
  have key : ∀ q ∈ sixL all a b c d e, ((q.1 : Nat) ≠ a ∧ (q.1 : Nat) ≠ b ∧ (q.1 : Nat) ≠ c ∧ (q.1 : Nat) ≠ d ∧ (q.1 : Nat) ≠ e ∧ (q.1 : Nat) ≠ 153) := fun q hq => by
    unfold sixL at hq
    have := (List.mem_filter.mp hq).2
    simp only [Bool.not_eq_true', Bool.or_eq_false_iff, beq_eq_false_iff_ne] at this
    obtain ⟨⟨⟨⟨⟨h1, h2⟩, h3⟩, h4⟩, h5⟩, h6⟩ := this
    exact ⟨h1, h2, h3, h4, h5, h6⟩
  exact ⟨fun q hq => sixL_mem (h q hq) (H.na q hq) (H.nb q hq) (H.nc q hq) (H.nd q hq) (H.ne q hq) (H.n0 q hq), fun q hq => (key q hq).1, fun q hq => (key q hq).2.1, fun q hq => (key q hq).2.2.1, fun q hq => (key q hq).2.2.2.1, fun q hq => (key q hq).2.2.2.2.1, fun q hq => (key q hq).2.2.2.2.2⟩
theorem six_pack {g h : Heap} {L : Addr} {all : List (Addr × Obj)} {a b c d e : Addr} {oa ob oc od oe o0 : Obj} (N : News g L h all) (ha : (a, oa) ∈ all) (hb : (b, ob) ∈ all) (hc : (c, oc) ∈ all) (hd : (d, od) ∈ all) (he : (e, oe) ∈ all) (h0 : (153, o0) ∈ all) :
    News g L h ((a, oa) :: (b, ob) :: (c, oc) :: (d, od) :: (e, oe) :: (153, o0) :: sixL all a b c d e) := cb_drop N fun q hq => by
  simp only [List.mem_cons] at hq
  rcases hq with h | h | h | h | h | h | h
  · rw [h]; exact ha
  · rw [h]; exact hb
  · rw [h]; exact hc
  · rw [h]; exact hd
  · rw [h]; exact he
  · rw [h]; exact h0
  · exact (List.mem_filter.mp h).1
theorem six_first {news : List (Addr × Obj)} {L a b c d e : Nat} (h : AllLt L news) (h0 : 153 < L) (hn : ∀ q ∈ news, q.1 ≠ 153) (ha : L ≤ a) (hb : L ≤ b) (hc : L ≤ c) (hd : L ≤ d) (he : L ≤ e) : Six news news a b c d e :=
  ⟨fun _ h => h, allLt_ne h ha, allLt_ne h hb, allLt_ne h hc, allLt_ne h hd, allLt_ne h he, hn⟩
theorem six_trans {nx news : List (Addr × Obj)} {a b c d e : Addr} (H : Six nx news a b c d e) : Six nx nx a b c d e := ⟨fun _ h => h, H.na, H.nb, H.nc, H.nd, H.ne, H.n0⟩
theorem six_sub {nx ny news : List (Addr × Obj)} {a b c d e : Addr} (H : Six ny nx a b c d e) (h : ∀ q ∈ news, q ∈ nx) : Six ny news a b c d e := ⟨fun q hq => H.sub q (h q hq), H.na, H.nb, H.nc, H.nd, H.ne, H.n0⟩
end Mine01
end

section
namespace Mine01
open DivM Lp
/-- the ledger but for some places -/
def offL (all : List (Addr × Obj)) (as : List Nat) : List (Addr × Obj) := all.filter fun q => !(as.contains (q.1 : Nat))
theorem offL_mem {all : List (Addr × Obj)} {as : List Nat} {q : Addr × Obj} (h : q ∈ all) (hn : ∀ a ∈ as, @Ne Nat q.1 a) : q ∈ offL all as := by
  unfold offL
  rw [List.mem_filter]
  refine ⟨h, ?_⟩
  simp only [Bool.not_eq_true', List.contains_eq_mem, decide_eq_false_iff_not]
  exact fun hm => hn _ hm rfl
structure Off (nx news : List (Addr × Obj)) (as : List Nat) : Prop where
  sub : ∀ q ∈ news, q ∈ nx
  off : ∀ q ∈ nx, ∀ a ∈ as, @Ne Nat q.1 a
theorem offL_sub {all : List (Addr × Obj)} {as : List Nat} : ∀ q ∈ offL all as, q ∈ all := fun q hq => (List.mem_filter.mp hq).1
theorem offL_off {all news : List (Addr × Obj)} {as : List Nat} (h : ∀ q ∈ news, q ∈ all) (hn : ∀ q ∈ news, ∀ a ∈ as, @Ne Nat q.1 a) : Off (offL all as) news as :=
  ⟨fun q hq => offL_mem (h q hq) (hn q hq), fun q hq a ha e => by
    have := (List.mem_filter.mp hq).2
    simp only [Bool.not_eq_true', List.contains_eq_mem, decide_eq_false_iff_not] at this
    exact this (by rw [show (q.1 : Nat) = a from e]; exact ha)⟩
theorem i1_nil {x : Nat} : ∀ a ∈ ([] : List Nat), @Ne Nat x a := fun _ h => nomatch h
theorem i1_cons {x a : Nat} {as : List Nat} (h : @Ne Nat x a) (r : ∀ b ∈ as, @Ne Nat x b) : ∀ b ∈ a :: as, @Ne Nat x b := fun b hb => by
  cases hb with
  | head => exact h
  | tail _ hb => exact r b hb
theorem ine_nil {nx : List (Addr × Obj)} : ∀ q ∈ nx, ∀ a ∈ ([] : List Nat), @Ne Nat q.1 a := fun _ _ _ h => nomatch h
theorem ine_cons {nx : List (Addr × Obj)} {a : Addr} {as : List Nat} (h : ∀ q ∈ nx, q.1 ≠ a) (r : ∀ q ∈ nx, ∀ b ∈ as, @Ne Nat q.1 b) : ∀ q ∈ nx, ∀ b ∈ (a :: as : List Nat), @Ne Nat q.1 b := fun q hq b hb => by
  rcases List.mem_cons.mp hb with rfl | hb
  · exact h q hq
  · exact r q hq b hb
theorem off_one {nx news : List (Addr × Obj)} {as : List Nat} {a : Addr} (H : Off nx news as) (h : @Membership.mem Nat (List Nat) _ as a) : ∀ q ∈ nx, q.1 ≠ a := fun q hq => H.off q hq a h
theorem off_turn {all nz : List (Addr × Obj)} {x1 x2 x3 x4 : Addr × Obj} {I : Addr} {as : List Nat} (hoff : ∀ p ∈ x1 :: x2 :: x3 :: x4 :: nz, p.1 ≠ I) (h : ∀ q ∈ nz, q ∈ all) (S : ∀ q ∈ nz, ∀ a ∈ as, @Ne Nat q.1 a) : Off (offL all (I :: as)) nz as := by
  have H := offL_off (as := I :: as) h (ine_cons (fun q hq => hoff q (.tail _ (.tail _ (.tail _ (.tail _ hq))))) S)
  exact ⟨H.sub, fun q hq a ha => H.off q hq a (.tail _ ha)⟩
theorem off_turnI {all nz : List (Addr × Obj)} {x1 x2 x3 x4 : Addr × Obj} {I : Addr} {as : List Nat} (hoff : ∀ p ∈ x1 :: x2 :: x3 :: x4 :: nz, p.1 ≠ I) : ∀ p ∈ x1 :: x2 :: x3 :: x4 :: offL all (I :: as), p.1 ≠ I := by
  intro p hp
  simp only [List.mem_cons] at hp
  rcases hp with h | h | h | h | h
  · exact h ▸ hoff _ (.head _)
  · exact h ▸ hoff _ (.tail _ (.head _))
  · exact h ▸ hoff _ (.tail _ (.tail _ (.head _)))
  · exact h ▸ hoff _ (.tail _ (.tail _ (.tail _ (.head _))))
  · have := (List.mem_filter.mp h).2
    simp only [Bool.not_eq_true', List.contains_eq_mem, decide_eq_false_iff_not] at this
    exact fun e => this (by rw [show (p.1 : Nat) = I from e]; exact .head _)
theorem recs_yes {nx : List (Addr × Obj)} {ys : List Value} {rs : List Rec} {i : Nat} {r : Rec} {X : Int} {a b : Addr} {tw ts t0 t1 t2 t3 t4 t5 : Tok} {c c' : Nat} {f0 f1 f2 f3 f4 f5 : Int} (h : RecsAre nx ys ((rs.take i).filter fun r => r.1 == X)) (e : rs[i]? = some r) (hx : r.1 = X)
    (hf : r.2.2 = [f0, f1, f2, f3, f4, f5]) (hm : (a, ({ cls := .type "tuple", data := .seq #[.int r.1 tw, .int r.2.1 ts, .ref b] c } : Obj)) ∈ nx) (hm2 : (b, listOf #[.int f0 t0, .int f1 t1, .int f2 t2, .int f3 t3, .int f4 t4, .int f5 t5] c') ∈ nx) :
    RecsAre nx (ys ++ [.ref a]) ((rs.take (i + 1)).filter fun r => r.1 == X) := by
  rw [List.take_add_one, e, Option.toList_some, List.filter_append, List.filter_cons_of_pos (by simpa using hx), List.filter_nil]
  obtain ⟨sp, lg, l⟩ := r
  dsimp only at hf hm
  subst hf
  exact recs_snoc h hm hm2
theorem recs_no {nx : List (Addr × Obj)} {ys : List Value} {rs : List Rec} {i : Nat} {r : Rec} {X : Int} (h : RecsAre nx ys ((rs.take i).filter fun r => r.1 == X)) (e : rs[i]? = some r) (hx : r.1 ≠ X) :
    RecsAre nx ys ((rs.take (i + 1)).filter fun r => r.1 == X) := by
  rw [List.take_add_one, e, Option.toList_some, List.filter_append, List.filter_cons_of_neg (by simpa using hx), List.filter_nil, List.append_nil]
  exact h
inductive OneRec (nx : List (Addr × Obj)) (vs : List Value) (o lg f0 f1 f2 f3 f4 f5 : Int) : Prop
  | mk (a b : Addr) (tw ts : Tok) (c c' : Nat) (t0 t1 t2 t3 t4 t5 : Tok) (e : vs = [Value.ref a]) (e3 : (a, ({ cls := .type "tuple", data := .seq #[.int o tw, .int lg ts, .ref b] c } : Obj)) ∈ nx) (e4 : (b, listOf #[.int f0 t0, .int f1 t1, .int f2 t2, .int f3 t3, .int f4 t4, .int f5 t5] c') ∈ nx) : OneRec nx vs o lg f0 f1 f2 f3 f4 f5
theorem recs_one {nx : List (Addr × Obj)} {vs : List Value} {o lg f0 f1 f2 f3 f4 f5 : Int} (h : RecsAre nx vs [(o, lg, [f0, f1, f2, f3, f4, f5])]) :
    OneRec nx vs o lg f0 f1 f2 f3 f4 f5 := by
  obtain ⟨a, b, tw, ts, c, c', g0, g1, g2, g3, g4, g5, t0, t1, t2, t3, t4, t5, e1, e2, e3, e4⟩ := h.2 0 _ rfl
  simp only [List.cons.injEq, and_true] at e2
  obtain ⟨rfl, rfl, rfl, rfl, rfl, rfl⟩ := e2
  refine ⟨a, b, tw, ts, c, c', t0, t1, t2, t3, t4, t5, ?_, e3, e4⟩
  match vs, h.1, e1 with
  | [v], _, e1 => simp at e1; rw [e1]
theorem recs_none {nx : List (Addr × Obj)} {vs : List Value} (h : RecsAre nx vs []) : vs = [] := List.length_eq_zero_iff.mp h.1
/-- what the reader said, in the law's words -/
abbrev rowA (b0 b8 : Array UInt8) (i1 i2 i3 i4 i5 i6 i7 i9 : Int) (x0 x1 x2 x3 x4 x5 x6 x7 x8 x9 : Tok) : Array Value := #[.bytes b0 x0, .int i1 x1, .int i2 x2, .int i3 x3, .int i4 x4, .int i5 x5, .int i6 x6, .int i7 x7, .bytes b8 x8, .int i9 x9]
def Said (o : Nat × List (Int × Int) × Option (List UInt8 × Int)) (sy : Str) (rs : List (Int × Int)) (row due : Array Value) (i7 : Int) (b8 : Array UInt8) : Prop :=
  (o = (0, rs, none) ∧ sy = Str.ofString "row" ∧ due = row) ∨ (o = (1, rs, none) ∧ sy = Str.ofString "bad" ∧ due = row) ∨ (o = (2, rs, none) ∧ sy = Str.ofString "short" ∧ due = row) ∨
  ∃ r spot, ∃ x0 x1 x2 x3 x4 x5 x6 x7 x8 x9 : Tok, o = (0, rs, some (r, spot)) ∧ sy = Str.ofString "row" ∧ r.take 4 = [80, 75, 6, 6] ∧
    due = rowA #[80, 75, 6, 6] b8 (Unp.sl r 16 20) (Unp.sl r 20 24) (Unp.sl r 24 32) (Unp.sl r 32 40) (Unp.sl r 40 48) (Unp.sl r 48 56) i7 spot x0 x1 x2 x3 x4 x5 x6 x7 x8 x9
theorem fin_reads {r : List UInt8} {c xs e : Int} {rs : List (Int × Int)} : (finE r c xs e rs).2.1 = rs := by
  unfold finE
  split
  · rfl
  · split <;> rfl
theorem ends_cut {T : Int → Int → List UInt8} {cu e : Int} (h : 1 ≤ cu) : endsE T cu e = if cu ≤ ((endsE T 9 e).2.1.length : Int) then (2, (endsE T 9 e).2.1.take cu.toNat, none) else endsE T 9 e := by
  by_cases h20 : e < 20
  · rw [ends_low h20, ends_low h20, if_neg (by simp; (first | lia | omega))]
  by_cases hs : (T (e - 20) 20).take 4 = [80, 75, 6, 7]
  case neg =>
    rw [ends_nosig (cut := 9) (by (first | lia | omega)) (by (first | lia | omega)) hs]
    by_cases hc : cu = 1
    · rw [ends_short1 (by (first | lia | omega)) hc, if_pos (by simp; (first | lia | omega)), hc]
      rfl
    · rw [ends_nosig (by (first | lia | omega)) hc hs, if_neg (by simp; (first | lia | omega))]
  by_cases hd : Unp.sl (T (e - 20) 20) 4 8 ≠ 0 ∨ 1 < Unp.sl (T (e - 20) 20) 16 20
  · rw [ends_disk (cut := 9) (by (first | lia | omega)) (by (first | lia | omega)) hs hd]
    by_cases hc : cu = 1
    · rw [ends_short1 (by (first | lia | omega)) hc, if_pos (by simp; (first | lia | omega)), hc]
      rfl
    · rw [ends_disk (by (first | lia | omega)) hc hs hd, if_neg (by simp; (first | lia | omega))]
  have hd1 : Unp.sl (T (e - 20) 20) 4 8 = 0 := by (first | lia | omega)
  have hd2 : ¬ 1 < Unp.sl (T (e - 20) 20) 16 20 := by (first | lia | omega)
  by_cases hf : e - 76 < Unp.sl (T (e - 20) 20) 8 16
  · rw [ends_far (cut := 9) (by (first | lia | omega)) (by (first | lia | omega)) hs hd1 hd2 hf]
    by_cases hc : cu = 1
    · rw [ends_short1 (by (first | lia | omega)) hc, if_pos (by simp; (first | lia | omega)), hc]
      rfl
    · rw [ends_far (by (first | lia | omega)) hc hs hd1 hd2 hf, if_neg (by simp; (first | lia | omega))]
  rw [ends_on (cut := 9) (by (first | lia | omega)) (by (first | lia | omega)) hs hd1 hd2 hf]
  generalize hc0 : Unp.sl (T (e - 20) 20) 8 16 = c at *
  by_cases hq : (T c 56).take 4 = [80, 75, 6, 6] ∨ c = e - 76
  · rw [ends2_here (cut := 9) (by (first | lia | omega)) hq, fin_reads]
    by_cases hc : cu = 1
    · rw [ends_short1 (by (first | lia | omega)) hc, if_pos (by simp; (first | lia | omega)), hc]
      rfl
    · rw [ends_on (by (first | lia | omega)) hc hs hd1 hd2 (by (first | lia | omega)), hc0]
      by_cases hc2 : cu = 2
      · rw [ends2_short hc2, if_pos (by simp; (first | lia | omega)), hc2]
        rfl
      · rw [ends2_here hc2 hq, if_neg (by simp; (first | lia | omega))]
  · have q1 : (T c 56).take 4 ≠ [80, 75, 6, 6] := fun x => hq (.inl x)
    have q2 : c ≠ e - 76 := fun x => hq (.inr x)
    rw [ends2_last (cut := 9) (by (first | lia | omega)) (by (first | lia | omega)) q1 q2, fin_reads]
    by_cases hc : cu = 1
    · rw [ends_short1 (by (first | lia | omega)) hc, if_pos (by simp; (first | lia | omega)), hc]
      rfl
    · rw [ends_on (by (first | lia | omega)) hc hs hd1 hd2 (by (first | lia | omega)), hc0]
      by_cases hc2 : cu = 2
      · rw [ends2_short hc2, if_pos (by simp; (first | lia | omega)), hc2]
        rfl
      · by_cases hc3 : cu = 3
        · rw [ends2_short3 hc3 q1 q2, if_pos (by simp; (first | lia | omega)), hc3]
          rfl
        · rw [ends2_last hc2 hc3 q1 q2, if_neg (by simp; (first | lia | omega))]
section
variable {z e cd di ds ki : Int} {ps : List (Int × Int × List UInt8)} {rs : List Rec}
theorem sees_low (h : e < 20) : endsE (tapeB z ps) 9 e = (0, [], none) := ends_low h
theorem sees_nosig (h : 20 ≤ e) (hl : tapeB z ps (e - 20) 20 = locL [80, 75, 6, 5] di cd ds) : endsE (tapeB z ps) 9 e = (0, [(e - 20, 20)], none) :=
  ends_nosig h (by (first | lia | omega)) (by rw [hl, loc_sig (by rfl)]; decide)
theorem sees_disk (h : 20 ≤ e) (hl : tapeB z ps (e - 20) 20 = locL [80, 75, 6, 7] di cd ds) (hd : 0 ≤ di ∧ di < 2 ^ 32) (hs : 0 ≤ ds ∧ ds < 2 ^ 32) (hn : di ≠ 0 ∨ ¬ ds < 2) : endsE (tapeB z ps) 9 e = (1, [(e - 20, 20)], none) := by
  refine ends_disk h (by (first | lia | omega)) (by rw [hl, loc_sig (by rfl)]) ?_
  rw [hl, loc_disk (by rfl) hd.1 hd.2, loc_disks (by rfl) hs.1 hs.2]
  (first | lia | omega)
theorem sees_far (h : 20 ≤ e) (hl : tapeB z ps (e - 20) 20 = locL [80, 75, 6, 7] di cd ds) (hc : 0 ≤ cd ∧ cd < 2 ^ 64) (hd : di = 0) (hs : 0 ≤ ds ∧ ds < 2) (hf : ¬ cd ≤ e - 76) : endsE (tapeB z ps) 9 e = (1, [(e - 20, 20)], none) := by
  refine ends_far h (by (first | lia | omega)) (by rw [hl, loc_sig (by rfl)]) ?_ ?_ ?_
  · rw [hl, loc_disk (by rfl) (by (first | lia | omega)) (by (first | lia | omega))]; exact hd
  · rw [hl, loc_disks (by rfl) hs.1 (by (first | lia | omega))]; (first | lia | omega)
  · rw [hl, loc_claim (by rfl) hc.1 hc.2]; (first | lia | omega)
theorem sees_on (h : 20 ≤ e) (hl : tapeB z ps (e - 20) 20 = locL [80, 75, 6, 7] di cd ds) (hc : 0 ≤ cd ∧ cd < 2 ^ 64) (hd : di = 0) (hs : 0 ≤ ds ∧ ds < 2) (hf : cd ≤ e - 76) : endsE (tapeB z ps) 9 e = ends2 (tapeB z ps) 9 e cd := by
  have := ends_on (T := tapeB z ps) (cut := 9) h (by (first | lia | omega)) (by rw [hl, loc_sig (by rfl)]) (by rw [hl, loc_disk (by rfl) (by (first | lia | omega)) (by (first | lia | omega))]; exact hd) (by rw [hl, loc_disks (by rfl) hs.1 (by (first | lia | omega))]; (first | lia | omega)) (by rw [hl, loc_claim (by rfl) hc.1 hc.2]; (first | lia | omega))
  rwa [hl, loc_claim (by rfl) hc.1 hc.2] at this
/-- what was found -/
def FoundOk (T : Int → Int → List UInt8) (e cd : Int) (frs : List Rec) (rq : List (Int × Int)) : Prop :=
  (frs = [] ∧ endsE T 9 e = (1, rq, none)) ∨
  ∃ o lg f0 f1 f2 f3 f4 f5, frs = [(o, lg, [f0, f1, f2, f3, f4, f5])] ∧ endsE T 9 e = finE (recL [80, 75, 6, 6] lg [f0, f1, f2, f3, f4, f5]) cd (e - 76 - o) e rq ∧ Fits lg f0 f1 f2 f3 f4 f5
theorem found_here (on : endsE (tapeB z ps) 9 e = ends2 (tapeB z ps) 9 e cd) (ht : Told (tapeB z ps) rs cd) (hn : rs.filter (fun x => x.1 == cd) ≠ []) : FoundOk (tapeB z ps) e cd (rs.filter fun x => x.1 == cd) [(e - 20, 20), (cd, 56)] := by
  rcases ht with ⟨h, _⟩ | ⟨lg, f0, f1, f2, f3, f4, f5, h, ht, b1, b2, b3, b4, b5, b6, b7⟩
  · exact absurd h hn
  · refine .inr ⟨cd, lg, f0, f1, f2, f3, f4, f5, h, ?_, ⟨b1, b2, b3, b4, b5, b6, b7⟩⟩
    rw [on, ends2_here (by (first | lia | omega)) (.inl (by rw [ht, rec_sig (by rfl)])), ht]
theorem found_end (on : endsE (tapeB z ps) 9 e = ends2 (tapeB z ps) 9 e cd) (ht : Told (tapeB z ps) rs cd) (hn : rs.filter (fun x => x.1 == cd) = []) (hl : cd = e - 76) : FoundOk (tapeB z ps) e cd [] [(e - 20, 20), (cd, 56)] := by
  rcases ht with ⟨_, h⟩ | ⟨lg, f0, f1, f2, f3, f4, f5, h, _⟩
  · exact .inl ⟨rfl, by rw [on, ends2_here (by (first | lia | omega)) (.inr hl), fin_none h]⟩
  · rw [hn] at h
    cases h
theorem found_last (on : endsE (tapeB z ps) 9 e = ends2 (tapeB z ps) 9 e cd) (ht : Told (tapeB z ps) rs cd) (hn : rs.filter (fun x => x.1 == cd) = []) (hl : cd ≠ e - 76) (ht2 : Told (tapeB z ps) rs (e - 76)) :
    FoundOk (tapeB z ps) e cd (rs.filter fun x => x.1 == (e - 76)) [(e - 20, 20), (cd, 56), (e - 76, 56)] := by
  rcases ht with ⟨_, h⟩ | ⟨lg, f0, f1, f2, f3, f4, f5, h, _⟩
  · rcases ht2 with ⟨h2, h3⟩ | ⟨lg, f0, f1, f2, f3, f4, f5, h2, h3, b1, b2, b3, b4, b5, b6, b7⟩
    · exact .inl ⟨h2, by rw [on, ends2_last (by (first | lia | omega)) (by (first | lia | omega)) h hl, fin_none h3]⟩
    · refine .inr ⟨e - 76, lg, f0, f1, f2, f3, f4, f5, h2, ?_, ⟨b1, b2, b3, b4, b5, b6, b7⟩⟩
      rw [on, ends2_last (by (first | lia | omega)) (by (first | lia | omega)) h hl, h3, Int.sub_self]
  · rw [hn] at h
    cases h
variable {o lg f0 f1 f2 f3 f4 f5 : Int} {rq : List (Int × Int)} {sp : Int}
theorem fin_no (hf : Fits lg f0 f1 f2 f3 f4 f5) (h : ¬ lg = 44 + (e - 76) - o ∨ ¬ f4 + f5 = cd) : finE (recL [80, 75, 6, 6] lg [f0, f1, f2, f3, f4, f5]) cd (e - 76 - o) e rq = (1, rq, none) := by
  refine fin_bad (rec_sig (by rfl)) ?_
  rw [rec_f5 (by rfl) hf.a5.1 hf.a5.2, rec_f4 (by rfl) hf.a4.1 hf.a4.2, rec_told (by rfl) hf.l.1 hf.l.2]
  (first | lia | omega)
theorem fin_yes (hf : Fits lg f0 f1 f2 f3 f4 f5) (h : lg = 44 + (e - 76) - o) (h2 : f4 + f5 = cd) : finE (recL [80, 75, 6, 6] lg [f0, f1, f2, f3, f4, f5]) cd (e - 76 - o) e rq = (0, rq, some (recL [80, 75, 6, 6] lg [f0, f1, f2, f3, f4, f5], o)) := by
  refine fin_okS (rec_sig (by rfl)) ?_ ?_ (by (first | lia | omega))
  · rw [rec_f5 (by rfl) hf.a5.1 hf.a5.2, rec_f4 (by rfl) hf.a4.1 hf.a4.2]; (first | lia | omega)
  · rw [rec_told (by rfl) hf.l.1 hf.l.2]; (first | lia | omega)
theorem said_yes {T : Int → Int → List UInt8} {row : Array Value} {i7 : Int} {b8 : Array UInt8} {x0 x1 x2 x3 x4 x5 x6 x7 x8 x9 : Tok} (hE : endsE T 9 e = finE (recL [80, 75, 6, 6] lg [f0, f1, f2, f3, f4, f5]) cd (e - 76 - o) e rq) (hf : Fits lg f0 f1 f2 f3 f4 f5) (h : lg = 44 + (e - 76) - o) (h2 : f4 + f5 = cd) :
    Said (endsE T 9 e) (Str.ofString "row") rq row (rowA #[80, 75, 6, 6] b8 f0 f1 f2 f3 f4 f5 i7 o x0 x1 x2 x3 x4 x5 x6 x7 x8 x9) i7 b8 := by
  refine .inr (.inr (.inr ⟨_, _, x0, x1, x2, x3, x4, x5, x6, x7, x8, x9, hE.trans (fin_yes hf h h2), rfl, rec_sig (by rfl), ?_⟩))
  rw [rec_f0 (by rfl) hf.a0.1 hf.a0.2, rec_f1 (by rfl) hf.a1.1 hf.a1.2, rec_f2 (by rfl) hf.a2.1 hf.a2.2, rec_f3 (by rfl) hf.a3.1 hf.a3.2, rec_f4 (by rfl) hf.a4.1 hf.a4.2, rec_f5 (by rfl) hf.a5.1 hf.a5.2]
theorem said_cut {T : Int → Int → List UInt8} {cu : Int} {sy : Str} {row due : Array Value} {i7 : Int} {b8 : Array UInt8} (h1 : 1 ≤ cu) (hs : Said (endsE T 9 e) sy rq row due i7 b8) (hc : cu ≤ (rq.length : Int)) : Said (endsE T cu e) (Str.ofString "short") (rq.take cu.toNat) row row i7 b8 := by
  have hr : (endsE T 9 e).2.1 = rq := by
    rcases hs with ⟨h, _⟩ | ⟨h, _⟩ | ⟨h, _⟩ | ⟨_, _, _, _, _, _, _, _, _, _, _, _, h, _⟩ <;> rw [h]
  refine .inr (.inr (.inl ⟨?_, rfl, rfl⟩))
  rw [ends_cut h1, hr, if_pos hc]
theorem said_uncut {T : Int → Int → List UInt8} {cu : Int} {sy : Str} {row due : Array Value} {i7 : Int} {b8 : Array UInt8} (h1 : 1 ≤ cu) (hs : Said (endsE T 9 e) sy rq row due i7 b8) (hc : ¬ cu ≤ (rq.length : Int)) : Said (endsE T cu e) sy rq row due i7 b8 := by
  have hr : (endsE T 9 e).2.1 = rq := by
    rcases hs with ⟨h, _⟩ | ⟨h, _⟩ | ⟨h, _⟩ | ⟨_, _, _, _, _, _, _, _, _, _, _, _, h, _⟩ <;> rw [h]
  have e1 : endsE T cu e = endsE T 9 e := by rw [ends_cut h1, hr, if_neg hc]
  rw [e1]
  exact hs
end
theorem asked_snoc {z : Int} {news : List (Addr × Obj)} {D : Addr} {V P o n : Int} {tV tP tc : Tok} {c : Nat} (hm : (D, ({ cls := .type "tuple", data := .seq #[.int V tV, .int P tP, .int n tc] c } : Obj)) ∈ news) (e : V * z + P = o) (p0 : 0 ≤ P) (p1 : P < z) :
    ∀ {vs : List Value} {rq : List (Int × Int)}, AskedAre z news vs rq → AskedAre z news (vs ++ [.ref D]) (rq ++ [(o, n)]) := by
  intro vs
  induction vs with
  | nil =>
    intro rq h
    cases rq with
    | nil => exact ⟨⟨D, V, P, tV, tP, tc, c, rfl, hm, e, p0, p1⟩, True.intro⟩
    | cons a r => exact h.elim
  | cons v r ih =>
    intro rq h
    cases rq with
    | nil => exact h.elim
    | cons a rq => exact ⟨h.1, ih h.2⟩
theorem asked_push {z : Int} {nx news : List (Addr × Obj)} (hs : ∀ q ∈ nx, q ∈ news) {aQ : Array Value} {rq : List (Int × Int)} (h : AskedAre z nx aQ.toList rq) {D : Addr} {V P o n : Int} {tV tP tc : Tok} {c : Nat}
    (hm : (D, ({ cls := .type "tuple", data := .seq #[.int V tV, .int P tP, .int n tc] c } : Obj)) ∈ news) (e : V * z + P = o) (p0 : 0 ≤ P) (p1 : P < z) : AskedAre z news (aQ.push (.ref D)).toList (rq ++ [(o, n)]) := by
  rw [Array.toList_push]
  exact asked_snoc hm e p0 p1 (asked_mono hs h)
theorem asked_len {z : Int} {news : List (Addr × Obj)} : ∀ {vs : List Value} {rq : List (Int × Int)}, AskedAre z news vs rq → vs.length = rq.length := by
  intro vs
  induction vs with
  | nil =>
    intro rq h
    cases rq with
    | nil => rfl
    | cons a r => exact h.elim
  | cons v r ih =>
    intro rq h
    cases rq with
    | nil => exact h.elim
    | cons a rq => simp [ih h.2]
theorem asked_take {z : Int} {news : List (Addr × Obj)} (n : Nat) : ∀ {vs : List Value} {rq : List (Int × Int)}, AskedAre z news vs rq → AskedAre z news (vs.take n) (rq.take n) := by
  induction n with
  | zero => intro vs rq _; exact True.intro
  | succ n ih =>
    intro vs rq h
    cases vs with
    | nil => cases rq with
      | nil => exact h
      | cons a r => exact h.elim
    | cons v vs => cases rq with
      | nil => exact h.elim
      | cons a r => exact ⟨h.1, ih h.2⟩
theorem slice_take {items : Array Value} {x : Int} (h : 0 ≤ x) : (slicePick items none (some x) none).toList = items.toList.take x.toNat := by
  obtain ⟨n, rfl⟩ := Int.eq_ofNat_of_zero_le h
  rw [slicePick_upto']
  rfl
theorem asked_slice {z x : Int} {nx news : List (Addr × Obj)} {items : Array Value} {rq : List (Int × Int)} (hs : ∀ q ∈ nx, q ∈ news) (h : AskedAre z nx items.toList rq) (hx : 0 ≤ x) : AskedAre z news (slicePick items none (some x) none).toList (rq.take x.toNat) := by
  rw [slice_take hx]
  exact asked_take _ (asked_mono hs h)
theorem list_tuple {g h : Heap} {L : Addr} {all : List (Addr × Obj)} (N : News g L h all) {a b : Addr} {vs us : Array Value} {c d : Nat} (ha : (a, ({ cls := .type "tuple", data := .seq us d } : Obj)) ∈ all) (hb : (b, listOf vs c) ∈ all) : @Ne Nat a b := fun e => by
  have h1 := (N _ ha).1
  have h2 := (N _ hb).1
  dsimp only at h1 h2
  rw [show a = b from e, h2] at h1
  have h3 := congrArg Obj.cls (Option.some.inj h1)
  injection h3 with h4
  exact absurd h4 (by decide)
theorem ine3 {a x y z : Nat} (h1 : @Ne Nat a x) (h2 : @Ne Nat a y) (h3 : @Ne Nat a z) : ∀ b ∈ [x, y, z], @Ne Nat a b := fun b hb => by
  simp only [List.mem_cons, List.not_mem_nil, or_false] at hb
  rcases hb with rfl | rfl | rfl
  · exact h1
  · exact h2
  · exact h3
section
variable {g h : Heap} {L : Addr} {all nw : List (Addr × Obj)} {dx qa rw : Addr} {vq vr : Array Value} {cqa cw : Nat}
theorem pieces_off (N : News g L h all) (hs : ∀ q ∈ nw, q ∈ all) (hq : (qa, listOf vq cqa) ∈ all) (hr : (rw, listOf vr cw) ∈ all) (hd : ∀ r ∈ nw, @Ne Nat r.1 dx) {vs : List Value} {ps : List (Int × Int × List UInt8)} (hp : PiecesAre nw vs ps) : PiecesAre (offL all [dx, qa, rw]) vs ps :=
  ⟨hp.1, fun i q e => by
    obtain ⟨a, tw, ts, td, c, e1, e2⟩ := hp.2 i q e
    exact ⟨a, tw, ts, td, c, e1, offL_mem (hs _ e2) (ine3 (hd _ e2) (list_tuple N (hs _ e2) hq) (list_tuple N (hs _ e2) hr))⟩⟩
theorem asked_off (N : News g L h all) (hs : ∀ q ∈ nw, q ∈ all) (hq : (qa, listOf vq cqa) ∈ all) (hr : (rw, listOf vr cw) ∈ all) (hd : ∀ r ∈ nw, @Ne Nat r.1 dx) {z : Int} : ∀ {vs : List Value} {rq : List (Int × Int)}, AskedAre z nw vs rq → AskedAre z (offL all [dx, qa, rw]) vs rq := by
  intro vs
  induction vs with
  | nil => intro rq h; cases rq with
    | nil => exact h
    | cons a r => exact h
  | cons v r ih => intro rq h; cases rq with
    | nil => exact h
    | cons a rq =>
      obtain ⟨⟨D, V, P, tV, tP, tc, c, e1, e2, e3, e4, e5⟩, h2⟩ := h
      exact ⟨⟨D, V, P, tV, tP, tc, c, e1, offL_mem (hs _ e2) (ine3 (hd _ e2) (list_tuple N (hs _ e2) hq) (list_tuple N (hs _ e2) hr)), e3, e4, e5⟩, ih h2⟩
end
theorem end_lt {bi z V P e : Int} (hv : VolOk bi z V P) (he : EndOk z V P e) (hz : 2 ^ 70 ≤ z) : e < 2 ^ bi.toNat * z := by
  have h1 := hv.v1
  have h2 := hv.p1
  have h3 := he.ee
  have : (V + 1) * z ≤ 2 ^ bi.toNat * z := Int.mul_le_mul_of_nonneg_right (by (first | lia | omega)) (by (first | lia | omega))
  rw [Int.add_mul] at this
  (first | lia | omega)
section
variable {o : Nat × List (Int × Int) × Option (List UInt8 × Int)} {sy : Str} {rq rs : List (Int × Int)} {row due : Array Value} {i7 : Int} {b8 : Array UInt8} {r : List UInt8} {spot : Int}
theorem said_row (h : Said o sy rq row due i7 b8) (e : o = (0, rs, none)) : rq = rs ∧ sy = Str.ofString "row" ∧ due = row := by
  subst e
  rcases h with ⟨h, h2, h3⟩ | ⟨h, _⟩ | ⟨h, _⟩ | ⟨_, _, _, _, _, _, _, _, _, _, _, _, h, _⟩
  · simp only [Prod.mk.injEq, and_true, true_and] at h; exact ⟨h.symm, h2, h3⟩
  all_goals simp at h
theorem said_bad (h : Said o sy rq row due i7 b8) (e : o = (1, rs, none)) : rq = rs ∧ sy = Str.ofString "bad" ∧ due = row := by
  subst e
  rcases h with ⟨h, _⟩ | ⟨h, h2, h3⟩ | ⟨h, _⟩ | ⟨_, _, _, _, _, _, _, _, _, _, _, _, h, _⟩
  · simp at h
  · simp only [Prod.mk.injEq, and_true, true_and] at h; exact ⟨h.symm, h2, h3⟩
  all_goals simp at h
theorem said_short (h : Said o sy rq row due i7 b8) (e : o = (2, rs, none)) : rq = rs ∧ sy = Str.ofString "short" ∧ due = row := by
  subst e
  rcases h with ⟨h, _⟩ | ⟨h, _⟩ | ⟨h, h2, h3⟩ | ⟨_, _, _, _, _, _, _, _, _, _, _, _, h, _⟩
  · simp at h
  · simp at h
  · simp only [Prod.mk.injEq, and_true, true_and] at h; exact ⟨h.symm, h2, h3⟩
  · simp at h
inductive SaidN (sy : Str) (rq rs : List (Int × Int)) (due : Array Value) (i7 : Int) (b8 : Array UInt8) (r : List UInt8) (spot : Int) : Prop
  | mk (e1 : rq = rs) (e2 : sy = Str.ofString "row") (e3 : r.take 4 = [80, 75, 6, 6]) (x0 x1 x2 x3 x4 x5 x6 x7 x8 x9 : Tok)
    (e4 : due = rowA #[80, 75, 6, 6] b8 (Unp.sl r 16 20) (Unp.sl r 20 24) (Unp.sl r 24 32) (Unp.sl r 32 40) (Unp.sl r 40 48) (Unp.sl r 48 56) i7 spot x0 x1 x2 x3 x4 x5 x6 x7 x8 x9) : SaidN sy rq rs due i7 b8 r spot
theorem said_new (h : Said o sy rq row due i7 b8) (e : o = (0, rs, some (r, spot))) : SaidN sy rq rs due i7 b8 r spot := by
  subst e
  rcases h with ⟨h, _⟩ | ⟨h, _⟩ | ⟨h, _⟩ | ⟨r', spot', x0, x1, x2, x3, x4, x5, x6, x7, x8, x9, h, h2, h3, h4⟩
  · simp at h
  · simp at h
  · simp at h
  · simp only [Prod.mk.injEq, Option.some.injEq, true_and] at h
    obtain ⟨e1, e2, e3⟩ := h
    subst e1 e2 e3
    exact ⟨rfl, h2, h3, x0, x1, x2, x3, x4, x5, x6, x7, x8, x9, h4⟩
end
/-- two rows of the same things -/
inductive RowsEq (a b : Array Value) : Prop
  | mk (b0 b8 : Array UInt8) (i1 i2 i3 i4 i5 i6 i7 i9 : Int) (x0 x1 x2 x3 x4 x5 x6 x7 x8 x9 y0 y1 y2 y3 y4 y5 y6 y7 y8 y9 : Tok) (e1 : a = rowA b0 b8 i1 i2 i3 i4 i5 i6 i7 i9 x0 x1 x2 x3 x4 x5 x6 x7 x8 x9) (e2 : b = rowA b0 b8 i1 i2 i3 i4 i5 i6 i7 i9 y0 y1 y2 y3 y4 y5 y6 y7 y8 y9) : RowsEq a b
theorem tab_off {g h : Heap} {L : Addr} {all : List (Addr × Obj)} (N : News g L h all) {k a : Addr} {oc : Obj} {us vs : Array Value} {c : Nat} (hk : (k, oc) ∈ all) (hd : oc.data = .fields us) (hb : (a, listOf vs c) ∈ all) : @Ne Nat k a := fun e => by
  have h1 := (N _ hk).1
  have h2 := (N _ hb).1
  dsimp only at h1 h2
  rw [show k = a from e, h2] at h1
  rw [← Option.some.inj h1] at hd
  cases hd
theorem rows_refl {b0 b8 : Array UInt8} {i1 i2 i3 i4 i5 i6 i7 i9 : Int} {x0 x1 x2 x3 x4 x5 x6 x7 x8 x9 : Tok} : RowsEq (rowA b0 b8 i1 i2 i3 i4 i5 i6 i7 i9 x0 x1 x2 x3 x4 x5 x6 x7 x8 x9) (rowA b0 b8 i1 i2 i3 i4 i5 i6 i7 i9 x0 x1 x2 x3 x4 x5 x6 x7 x8 x9) :=
  ⟨b0, b8, i1, i2, i3, i4, i5, i6, i7, i9, x0, x1, x2, x3, x4, x5, x6, x7, x8, x9, x0, x1, x2, x3, x4, x5, x6, x7, x8, x9, rfl, rfl⟩
theorem rows_new {b0 b8 : Array UInt8} {i1 i2 i3 i4 i5 i6 i7 i9 : Int} {x0 x1 x2 x3 x4 x5 x6 x7 x8 x9 y0 y1 y2 y3 y4 y5 y6 y7 y8 y9 : Tok} : RowsEq (rowA b0 b8 i1 i2 i3 i4 i5 i6 i7 i9 x0 x1 x2 x3 x4 x5 x6 x7 x8 x9) (rowA b0 b8 i1 i2 i3 i4 i5 i6 i7 i9 y0 y1 y2 y3 y4 y5 y6 y7 y8 y9) :=
  ⟨b0, b8, i1, i2, i3, i4, i5, i6, i7, i9, x0, x1, x2, x3, x4, x5, x6, x7, x8, x9, y0, y1, y2, y3, y4, y5, y6, y7, y8, y9, rfl, rfl⟩
theorem asked_nil {z : Int} {na : List (Addr × Obj)} {vs : List Value} (h : AskedAre z na vs []) : vs = [] := by
  cases vs with
  | nil => rfl
  | cons a r => exact h.elim
theorem asked_cons {z : Int} {na : List (Addr × Obj)} {vs : List Value} {q : Int × Int} {rq : List (Int × Int)} (h : AskedAre z na vs (q :: rq)) :
    ∃ D tV tP tc c r, vs = .ref D :: r ∧ (D, ({ cls := .type "tuple", data := .seq #[.int (q.1 / z) tV, .int (q.1 % z) tP, .int q.2 tc] c } : Obj)) ∈ na ∧ AskedAre z na r rq := by
  cases vs with
  | nil => exact h.elim
  | cons v r =>
    obtain ⟨⟨D, V, P, tV, tP, tc, c, e1, e2, e3, e4, e5⟩, h2⟩ := h
    obtain ⟨e6, e7⟩ := DivM.ediv_of e3.symm e4 e5
    subst e1
    exact ⟨D, tV, tP, tc, c, r, rfl, by rw [e6, e7]; exact e2, h2⟩
theorem code_153 {g h : Heap} {L : Addr} {na : List (Addr × Obj)} {k1 k2 k : Addr} {oc : Obj} {v : Array Value} {q : Str} {t : Tok} (N : News g L h na) (h0 : (153, tabObj (hitTb k1 k2)) ∈ na) (hm : (k, oc) ∈ na) (hd : oc.data = .fields v) (hv : v[1]? = some (.str q t)) : (k, oc) ∈ offL na [153] :=
  offL_mem hm (fun b hb e => by
    rw [List.mem_singleton.mp hb] at e
    have e1 := (N _ hm).1
    have e2 := (N _ h0).1
    dsimp only at e1 e2 e
    rw [show k = 153 from e, e2] at e1
    rw [← Option.some.inj e1] at hd
    have hd2 : hitTb k1 k2 = v := by injection hd
    rw [← hd2] at hv
    cases hv)
theorem off_153 {na news : List (Addr × Obj)} (h : ∀ q ∈ news, q ∈ na) (hn : ∀ p ∈ news, p.1 ≠ 153) : ∀ q ∈ news, q ∈ offL na [153] := fun q hq => offL_mem (h q hq) fun b hb e => by
  rw [List.mem_singleton.mp hb] at e
  exact hn q hq e
theorem off_153n {na : List (Addr × Obj)} : ∀ q ∈ offL na [153], q.1 ≠ 153 := fun q hq e => by
  have := (List.mem_filter.mp hq).2
  simp only [Bool.not_eq_true', List.contains_eq_mem, decide_eq_false_iff_not] at this
  exact this (by rw [show (q.1 : Nat) = 153 from e]; exact .head _)
end Mine01
end

section
open PySem PySem.W PySem.Spec PySem.Calls PyProof.Rows
namespace Cp
open LCt LCg
section
variable {prog : Program} {w : World} {A : Around} {s : Shared} {h₀ : Heap} {L : Addr} {m : Str → Option Value} {env : Env}
/-- a comprehension with a test, over a list of any length -/
theorem rest_all {ct elt : Expr} {x : Str} {scope : Scope} {cl : List (Str × Addr)} {S : List (Addr × Obj) → Prop} {P : Nat → Value → Prop} {Fin : List Value → List (Addr × Obj) → Prop} {news : List (Addr × Obj)} {n : Nat} (J : Nat → List Value → Prop)
    (turn : ∀ i ys, i < n → J i ys → ∀ v I oI C oC D m₂ h tk (E' : Value → Shared → Prop), P i v → NsObj oC m₂ → m₂ x = some v → Fr h₀ L h m → News h₀ L h ((I, oI) :: (C, oC) :: (D, lst ys) :: news) → Off3 I C D news → ((@Ne Nat I C) ∧ (@Ne Nat I D) ∧ (@Ne Nat C D)) →
      wpAny (model prog w) A (isTrue ct (compEnvC scope cl C env) (eval ct (compEnvC scope cl C env))) (fun ok s' => if ok = true then
        wpAny (model prog w) A (eval elt (compEnvC scope cl C env)) (CompEnd h₀ L m { s with heap := h, toks := tk } I oI C oC D (lst ys) S (fun y news' => news' = news ∧ J (i + 1) (ys ++ [y]))) E' s'
        else CompEnd h₀ L m { s with heap := h, toks := tk } I oI C oC D (lst ys) S (fun _ news' => news' = news ∧ J (i + 1) ys) Value.none s') E' { s with heap := h, toks := tk })
    (done : ∀ ys, J n ys → Fin ys news) : ∀ k i ys, k + i = n → J i ys → CompRestT prog w A h₀ L m env ct elt x scope cl s S P Fin k i ys news := by
  intro k
  induction k with
  | zero =>
    intro i ys e j
    have : i = n := by omega
    subst this
    exact CompRestT.zero (done ys j)
  | succ k ih =>
    intro i ys e j
    refine CompRestT.succ fun v I oI C oC D m₂ h tk E' p1 p2 p3 F N off ne => ?_
    refine wpAny_mono (turn i ys (by omega) j v I oI C oC D m₂ h tk E' p1 p2 p3 F N off ne) (fun ok s' h' => ?_) fun _ _ e => e
    cases ok with
    | true =>
      simp only [if_true] at h' ⊢
      refine wpAny_mono h' (fun y s'' h'' => ?_) fun _ _ e => e
      obtain ⟨h2, tk2, news', e2, F2, N2, o2, S2, rfl, j2⟩ := h''
      exact ⟨h2, tk2, _, e2, F2, N2, o2, S2, ih (i + 1) _ (by omega) j2⟩
    | false =>
      simp only [Bool.false_eq_true, if_false] at h' ⊢
      obtain ⟨h2, tk2, news', e2, F2, N2, o2, S2, rfl, j2⟩ := h'
      exact ⟨h2, tk2, _, e2, F2, N2, o2, S2, ih (i + 1) _ (by omega) j2⟩
theorem ledger_all {ct elt : Expr} {x : Str} {scope : Scope} {cl : List (Str × Addr)} {Fin : Shared → List Value → List (Addr × Obj) → Prop} {ax : Addr} {its : Array Value} {k : Nat} {news : List (Addr × Obj)} {s₁ : Shared} (J : Nat → List Value → Prop)
    (hh : A.handled = none) (F : Fr h₀ L s₁.heap m) (N : News h₀ L s₁.heap news) (hm : (ax, ({ cls := .type "list", data := .seq its k } : Obj)) ∈ news) (hsz : its.size ≤ sizeLine) (j0 : J 0 [])
    (turn : ∀ g i ys v, its[i]? = some v → J i ys → ∀ I oI C oC D m₂ h tk (E' : Value → Shared → Prop), NsObj oC m₂ → m₂ x = some v → Fr h₀ L h m → News h₀ L h ((I, oI) :: (C, oC) :: (D, lst ys) :: news) → Off3 I C D news → ((@Ne Nat I C) ∧ (@Ne Nat I D) ∧ (@Ne Nat C D)) →
      wpAny (model prog w) A (isTrue ct (compEnvC scope cl C env) (eval ct (compEnvC scope cl C env))) (fun ok s' => if ok = true then
        wpAny (model prog w) A (eval elt (compEnvC scope cl C env)) (CompEnd h₀ L m { { s₁ with heap := g } with heap := h, toks := tk } I oI C oC D (lst ys) (SrcAt h₀ ax its) (fun y news' => news' = news ∧ J (i + 1) (ys ++ [y]))) E' s'
        else CompEnd h₀ L m { { s₁ with heap := g } with heap := h, toks := tk } I oI C oC D (lst ys) (SrcAt h₀ ax its) (fun _ news' => news' = news ∧ J (i + 1) ys) Value.none s') E' { { s₁ with heap := g } with heap := h, toks := tk })
    (done : ∀ g ys, J its.size ys → Fin { s₁ with heap := g } ys news) :
    CompSrcT prog w A h₀ L m env ct elt x scope cl Fin (.ref ax) s₁ :=
  CompSrcT.ledger hh F N hm hsz fun g => rest_all (n := its.size) J (fun i ys hi j v I oI C oC D m₂ h tk E' p1 p2 p3 F N off ne => turn g i ys v p1 j I oI C oC D m₂ h tk E' p2 p3 F N off ne) (done g) its.size 0 [] (by omega) j0
/-- a comprehension without a test, of any length -/
theorem plain_all {elt : Expr} {x : Str} {scope : Scope} {cl : List (Str × Addr)} {S : List (Addr × Obj) → Prop} {P : Nat → Value → Prop} {Fin : List Value → List (Addr × Obj) → Prop} {news : List (Addr × Obj)} {n : Nat} (J : Nat → List Value → Prop)
    (turn : ∀ i ys, i < n → J i ys → ∀ v I oI C oC D m₂ h tk (E' : Value → Shared → Prop), P i v → NsObj oC m₂ → m₂ x = some v → Fr h₀ L h m → News h₀ L h ((I, oI) :: (C, oC) :: (D, lst ys) :: news) → Off3 I C D news → ((@Ne Nat I C) ∧ (@Ne Nat I D) ∧ (@Ne Nat C D)) →
      wpAny (model prog w) A (eval elt (compEnvC scope cl C env)) (CompEnd h₀ L m { s with heap := h, toks := tk } I oI C oC D (lst ys) S (fun y news' => news' = news ∧ J (i + 1) (ys ++ [y]))) E' { s with heap := h, toks := tk })
    (done : ∀ ys, J n ys → Fin ys news) : ∀ k i ys, k + i = n → J i ys → CompRest prog w A h₀ L m env elt x scope cl s S P Fin k i ys news := by
  intro k
  induction k with
  | zero =>
    intro i ys e j
    have : i = n := by omega
    subst this
    exact CompRest.zero (done ys j)
  | succ k ih =>
    intro i ys e j
    refine CompRest.succ fun v I oI C oC D m₂ h tk E' p1 p2 p3 F N off ne => ?_
    refine wpAny_mono (turn i ys (by omega) j v I oI C oC D m₂ h tk E' p1 p2 p3 F N off ne) (fun y s'' h'' => ?_) fun _ _ e => e
    obtain ⟨h2, tk2, news', e2, F2, N2, o2, S2, rfl, j2⟩ := h''
    exact ⟨h2, tk2, _, e2, F2, N2, o2, S2, ih (i + 1) _ (by omega) j2⟩
theorem range_all {elt : Expr} {x : Str} {scope : Scope} {cl : List (Str × Addr)} {Fin : Shared → List Value → List (Addr × Obj) → Prop} {r : Addr} {a b : Int} {t u v : Tok} {n : Nat} {news : List (Addr × Obj)} {s₁ : Shared} (J : Nat → List Value → Prop)
    (hh : A.handled = none) (F : Fr h₀ L s₁.heap m) (N : News h₀ L s₁.heap news) (hr : IsRange s₁.heap r a b 1 t u v) (hsm : Builtin.Range.small a b 1 = true) (hn : Builtin.Range.rangeSize a b 1 = ((n : Nat) : Int)) (hsz : n ≤ sizeLine) (j0 : J 0 [])
    (turn : ∀ g i ys tv, i < n → J i ys → ∀ I oI C oC D m₂ h tk (E' : Value → Shared → Prop), NsObj oC m₂ → m₂ x = some (.int (a + (i : Int)) tv) → Fr h₀ L h m → News h₀ L h ((I, oI) :: (C, oC) :: (D, lst ys) :: news) → Off3 I C D news → ((@Ne Nat I C) ∧ (@Ne Nat I D) ∧ (@Ne Nat C D)) →
      wpAny (model prog w) A (eval elt (compEnvC scope cl C env)) (CompEnd h₀ L m { { s₁ with heap := g } with heap := h, toks := tk } I oI C oC D (lst ys) (fun _ => True) (fun y news' => news' = news ∧ J (i + 1) (ys ++ [y]))) E' { { s₁ with heap := g } with heap := h, toks := tk })
    (done : ∀ g ys, J n ys → Fin { s₁ with heap := g } ys news) :
    CompSrc prog w A h₀ L m env elt x scope cl Fin (.ref r) s₁ :=
  CompSrc.range hh F N hr hsm hn hsz fun g => plain_all (n := n) J (fun i ys hi j v I oI C oC D m₂ h tk E' p1 p2 p3 F N off ne => by
    obtain ⟨tv, rfl⟩ := p1
    exact turn g i ys tv hi j I oI C oC D m₂ h tk E' p2 p3 F N off ne) (done g) n 0 [] (by omega) j0
end
end Cp
end

section
namespace Mine01
open DivM Lp
open PySem.SeqAt
section
variable {A : Around} {s : Shared}
theorem eqAt_bytes (b : Array UInt8) (t u : Tok) : EqAt A s (.bytes b t) (.bytes b u) true := fun prog w E Q h => by
  unfold eqBool
  refine wpAny_holding ?_
  refine wpAny_ite_split (fun _ => wpAny_bind (wpAny_rule (wpAny_pure h))) (fun _ => ?_)
  refine wpAny_bind ?_
  have e : (b.toList == b.toList) = true := by simp
  exact eq_bytes (prog := prog) (w := w) (A := A) (E := E) (by rw [e]; exact wpAny_truthy_bool h)
theorem eqAt_int (a : Int) (t u : Tok) : EqAt A s (.int a t) (.int a u) true := by
  have := EqAt.int_int (A := A) (s := s) a t a u
  rwa [beq_self_eq_true] at this
theorem all_true (n : Nat) : (List.range n).all (fun _ => true) = true := by simp
variable {prog : Program} {w : World} {E : Value → Shared → Prop} {g : Heap} {L : Addr} {na : List (Addr × Obj)} {Q : Value → Shared → Prop}
theorem eq_rows {rw du : Addr} {crb cdu : Nat} {b0 b8 : Array UInt8} {i1 i2 i3 i4 i5 i6 i7 i9 : Int} {x0 x1 x2 x3 x4 x5 x6 x7 x8 x9 y0 y1 y2 y3 y4 y5 y6 y7 y8 y9 : Tok} (N : News g L s.heap na)
    (h1 : (rw, listOf (rowA b0 b8 i1 i2 i3 i4 i5 i6 i7 i9 x0 x1 x2 x3 x4 x5 x6 x7 x8 x9) crb) ∈ na) (h2 : (du, listOf (rowA b0 b8 i1 i2 i3 i4 i5 i6 i7 i9 y0 y1 y2 y3 y4 y5 y6 y7 y8 y9) cdu) ∈ na) (hu : A.units < cLine) (h : Q (.bool true) s) :
    wpAny (model prog w) A (compareOp .Eq (.ref rw) (.ref du)) Q E s := by
  refine eq_listAt (e := fun _ => true) ⟨_, (N _ h1).1, rfl, _, rfl⟩ ⟨_, (N _ h2).1, rfl, _, rfl⟩ rfl hu (fun j j1 j2 => ?_) (by rw [all_true]; exact h)
  match j, j1 with
  | 0, _ => exact eqAt_bytes _ _ _
  | 1, _ => exact eqAt_int _ _ _
  | 2, _ => exact eqAt_int _ _ _
  | 3, _ => exact eqAt_int _ _ _
  | 4, _ => exact eqAt_int _ _ _
  | 5, _ => exact eqAt_int _ _ _
  | 6, _ => exact eqAt_int _ _ _
  | 7, _ => exact eqAt_int _ _ _
  | 8, _ => exact eqAt_bytes _ _ _
  | 9, _ => exact eqAt_int _ _ _
  | j + 10, h => exact absurd h (by show ¬ j + 10 < 10; (first | lia | omega))
theorem eqAt_tuple {D D' : Addr} {V P n : Int} {t1 t2 t3 u1 u2 u3 : Tok} {c d : Nat} (N : News g L s.heap na) (h1 : (D, ({ cls := .type "tuple", data := .seq #[.int V t1, .int P t2, .int n t3] c } : Obj)) ∈ na) (h2 : (D', ({ cls := .type "tuple", data := .seq #[.int V u1, .int P u2, .int n u3] d } : Obj)) ∈ na)
    (hu : A.units < cLine) : EqAt A s (.ref D) (.ref D') true := by
  by_cases e : D = D'
  · subst e
    exact EqAt.same _
  · refine EqAt.of_refs e ?_
    have := RcAt.tuples (A := A) (e := fun _ => true) (l := D) (b := D') (s := s) ⟨_, (N _ h1).1, rfl, _, rfl⟩ ⟨_, (N _ h2).1, rfl, _, rfl⟩ hu (fun j j1 j2 => by
      match j, j1 with
      | 0, _ => exact eqAt_int _ _ _
      | 1, _ => exact eqAt_int _ _ _
      | 2, _ => exact eqAt_int _ _ _
      | j + 3, h => exact absurd h (by show ¬ j + 3 < 3; (first | lia | omega)))
    rw [all_true] at this
    exact this
theorem asked_eqAt {z : Int} (N : News g L s.heap na) (hu : A.units < cLine) : ∀ {rq : List (Int × Int)} {vs ws : List Value}, AskedAre z na vs rq → AskedAre z na ws rq → ∀ j (h1 : j < vs.length) (h2 : j < ws.length), EqAt A s vs[j] ws[j] true := by
  intro rq
  induction rq with
  | nil =>
    intro vs ws h _ j h1
    have := asked_nil h
    subst this
    exact absurd h1 (Nat.not_lt_zero _)
  | cons q rq ih =>
    intro vs ws h k j h1 h2
    obtain ⟨D, tV, tP, tc, c, r, rfl, hm, hr⟩ := asked_cons h
    obtain ⟨D', tV', tP', tc', c', r', rfl, hm', hr'⟩ := asked_cons k
    cases j with
    | zero => exact eqAt_tuple N hm hm' hu
    | succ j => exact ih hr hr' j (Nat.lt_of_succ_lt_succ h1) (Nat.lt_of_succ_lt_succ h2)
theorem eq_asked {z : Int} {rq : List (Int × Int)} {qa rd : Addr} {vs ws : Array Value} {c d : Nat} (N : News g L s.heap na) (h1 : (qa, listOf vs c) ∈ na) (h2 : (rd, listOf ws d) ∈ na) (hv : AskedAre z na vs.toList rq) (hw : AskedAre z na ws.toList rq)
    (hu : A.units < cLine) (hu1 : A.in1.units < cLine) (h : Q (.bool true) s) : wpAny (model prog w) A (compareOp .Eq (.ref qa) (.ref rd)) Q E s := by
  have l1 := asked_len hv
  have l2 := asked_len hw
  rw [Array.length_toList] at l1 l2
  refine eq_listAt (e := fun _ => true) ⟨_, (N _ h1).1, rfl, _, rfl⟩ ⟨_, (N _ h2).1, rfl, _, rfl⟩ (by (first | lia | omega)) hu (fun j j1 j2 => ?_) (by rw [all_true]; exact h)
  exact asked_eqAt N hu1 hv hw j (by rw [Array.length_toList]; exact j1) (by rw [Array.length_toList]; exact j2)
theorem eq_selfstr {sy : Str} {t u : Tok} (h : Q (.bool true) s) : wpAny (model prog w) A (compareOp .Eq (.str sy t) (.str sy u)) Q E s :=
  eq_str (by rw [show (sy == sy) = true by simp]; exact h)
theorem eq_empty_yes {a b : Addr} {c d : Nat} (N : News g L s.heap na) (h1 : (a, ({ cls := .type "list", data := .seq (List.toArray []) c } : Obj)) ∈ na) (h2 : (b, listOf #[] d) ∈ na) (hu : A.units < cLine) (h : Q (.bool true) s) :
    wpAny (model prog w) A (compareOp .Eq (.ref a) (.ref b)) Q E s :=
  eq_listAt (e := fun _ => true) ⟨_, (N _ h1).1, rfl, _, rfl⟩ ⟨_, (N _ h2).1, rfl, _, rfl⟩ rfl hu (fun j j1 j2 => absurd j1 (Nat.not_lt_zero _)) h
theorem eq_empty_no {a b : Addr} {c d : Nat} {v : Value} (N : News g L s.heap na) (h1 : (a, ({ cls := .type "list", data := .seq (List.toArray [v]) c } : Obj)) ∈ na) (h2 : (b, listOf #[] d) ∈ na) (hu : A.units < cLine) (h : Q (.bool false) s) :
    wpAny (model prog w) A (compareOp .Eq (.ref a) (.ref b)) Q E s :=
  eq_list_lengthsAt ⟨_, (N _ h1).1, rfl, _, rfl⟩ ⟨_, (N _ h2).1, rfl, _, rfl⟩ rfl hu h
end
end Mine01
end

section
namespace Mine01
open DivM Lp

theorem stSc1 {M A Q E s y0 y1 y2 y3 y4} (h : Blk (wpAny M A (subscriptTail y0 y1 (Value.ref y2) (Value.int y3 y4)) Q E s)) : wpAny M A (subscriptTail y0 y1 (Value.ref y2) (Value.int y3 y4)) Q E s := h
local macro_rules | `(tactic| walk_at "subscriptTail") => `(tactic| with_reducible refine stSc1 ?_)
theorem stSc2 {M A Q E s y0 y1 y2 y3} (h : Blk (wpAny M A (binaryOp y0 (Value.int 2 y1) (Value.int y2 y3)) Q E s)) : wpAny M A (binaryOp y0 (Value.int 2 y1) (Value.int y2 y3)) Q E s := h
local macro_rules | `(tactic| walk_at "binaryOp Pow int int") => `(tactic| with_reducible refine stSc2 ?_)
local macro_rules | `(tactic| walk_at "binaryOp Mod int int") => `(tactic| refine Blk.out ?_)
local macro_rules | `(tactic| walk_at "binaryOp Mult int int") => `(tactic| refine Blk.out ?_)
local macro_rules | `(tactic| walk_at "binaryOp FloorDiv int int") => `(tactic| refine Blk.out ?_)
local macro_rules | `(tactic| walk_at "call ref") => `(tactic| refine Blk.out ?_)
local macro_rules | `(tactic| walk_at "exec Assign cons ListComp") => `(tactic| refine Blk.out ?_)
local macro_rules | `(tactic| walk_at "exec For Tuple Name cons nil") => `(tactic| refine Blk.out ?_)
local macro_rules | `(tactic| walk_at "pyIter ref") => `(tactic| refine Blk.out ?_)
local macro_rules | `(tactic| walk_at "compareOp Eq ref ref") => `(tactic| refine Blk.out ?_)
local macro_rules | `(tactic| walk_at "binaryOp Add bytes bytes") => `(tactic| refine Blk.out ?_)
theorem stSc3 {M A Q E s y0 y1 y2 y3} (h : Blk (wpAny M A (binaryOp y0 (Value.int y1 y2) (Value.int 1 y3)) Q E s)) : wpAny M A (binaryOp y0 (Value.int y1 y2) (Value.int 1 y3)) Q E s := h
local macro_rules | `(tactic| walk_at "binaryOp BitXor int int") => `(tactic| with_reducible refine stSc3 ?_)
theorem stSc4 {M A Q E s y0 y1 y2 y3 y4 y5 y6} (h : Blk (wpAny M A (execs (Stmt.Assign [Expr.Name ("fault" : Str) y0] y1 y2 :: y3 :: y4 :: y5) y6) Q E s)) : wpAny M A (execs (Stmt.Assign [Expr.Name ("fault" : Str) y0] y1 y2 :: y3 :: y4 :: y5) y6) Q E s := h
local macro_rules | `(tactic| walk_at "execs cons Assign") => `(tactic| with_reducible refine stSc4 ?_)
theorem stSc5 {M A Q E s y0 y1 y2 y3 y4 y5 y6 y7} (h : Blk (wpAny M A (execs (Stmt.Assign [Expr.Name ("found" : Str) y0] y1 y2 :: y3 :: y4 :: y5 :: y6) y7) Q E s)) : wpAny M A (execs (Stmt.Assign [Expr.Name ("found" : Str) y0] y1 y2 :: y3 :: y4 :: y5 :: y6) y7) Q E s := h
local macro_rules | `(tactic| walk_at "execs cons Assign") => `(tactic| with_reducible refine stSc5 ?_)
theorem stSc6 {M A Q E s y0 y1 y2 y3 y4} (h : Blk (wpAny M A (subscriptTail y0 (Expr.Slice none (some (Expr.Name ("cut" : Str) y1)) none y2) (Value.ref y3) (Value.ref y4)) Q E s)) : wpAny M A (subscriptTail y0 (Expr.Slice none (some (Expr.Name ("cut" : Str) y1)) none y2) (Value.ref y3) (Value.ref y4)) Q E s := h
local macro_rules | `(tactic| walk_at "subscriptTail Name Slice ref ref") => `(tactic| with_reducible refine stSc6 ?_)
local macro_rules | `(tactic| walk_at "exec Try") => `(tactic| (refine wpAny_Try_except ?_; (try k_fold)))
local macro_rules | `(tactic| walk_at "compareOp Eq str str") => `(tactic| with_reducible refine eq_selfstr ?_)
local macro_rules | `(tactic| walk_at "Exists") => `(tactic| ((with_reducible show ∃ _ _ _ _, KtsTurn _ _ _ ∧ _); refine Blk.out ?_))
theorem stSc7 {M A Q E s y0} (h : Blk (wpAny M A (call (Value.builtin "len") [Value.ref y0]) Q E s)) : wpAny M A (call (Value.builtin "len") [Value.ref y0]) Q E s := h
local macro_rules | `(tactic| walk_at "call builtin:len") => `(tactic| with_reducible refine stSc7 ?_)
section
variable {prog : Program} {w : World} {p : Program} {loose : List Str} {mean : ExcName → Option Value} {mg mb : Str → Option Value}
  {dp un : Nat} {gd : Option (List Code)} {cn : Str} {cs : Scope} {ad : Addr} {ccd : Value} {cl : List (Str × Addr)} {A₀ : Around} {base h₀ : Heap} {L : Addr} {m : Str → Option Value} {news : List (Addr × Obj)} {s : Shared} {Q E : Value → Shared → Prop}
theorem scene_call {cc : Addr} {c0 c1 c2 c3 c4 c5 c6 c7 c8 c9 c10 c11 : Int} {t0 t1 t2 t3 t4 t5 t6 t7 t8 t9 t10 t11 : Tok} {cnn : Nat} {tb : Array Value}
    {M : Int} (hM : M ≤ 4194304) (b0 : (Builtin.Int.intBits c0 : Int) ≤ M) (b1 : (Builtin.Int.intBits c1 : Int) ≤ M) (b2 : (Builtin.Int.intBits c2 : Int) ≤ M) (b3 : (Builtin.Int.intBits c3 : Int) ≤ M) (b5 : (Builtin.Int.intBits c5 : Int) ≤ M) (b6 : (Builtin.Int.intBits c6 : Int) ≤ M) (b10 : (Builtin.Int.intBits c10 : Int) ≤ M)
    (XB : (hd.heap_39 w.params).In base) (TB : Top p loose mean mg mb base)
    (hcc : (cc, ({ cls := .type "list", data := .seq #[.int c0 t0, .int c1 t1, .int c2 t2, .int c3 t3, .int c4 t4, .int c5 t5, .int c6 t6, .int c7 t7, .int c8 t8, .int c9 t9, .int c10 t10, .int c11 t11] cnn } : Obj)) ∈ news)
    (C : CodeHd base 157 153) {old : List (Addr × Obj)} (hold : ∀ q ∈ old, q ∈ news) (htb : TabOk tb old) (hn153 : ∀ p ∈ news, p.1 ≠ 153)
    (H : Here w p loose mean mg mb 20 dp un cs [] A₀ base h₀ L m ((153, tabObj tb) :: news) s.heap)
    (hret : ∀ tb' T nx h' tk', (∀ q ∈ news, q ∈ nx) → (∀ q ∈ T, q ∈ nx) → (∀ q ∈ T, q ∈ old ∨ ∀ r ∈ news, @Ne Nat q.1 r.1) → TabOk tb' T → (∀ q ∈ nx, q.1 ≠ 153) → Fr h₀ L h' m → News h₀ L h' ((153, tabObj tb') :: nx) → Q (.bool true) { s with heap := h', toks := tk' }) :
    wpAny (model prog w) (ktrTop dp un gd cn cs L ad ccd cl []) (call (.ref 163) [.ref cc]) Q E s := by
  obtain ⟨B, F, X, N, T, hk, hdp, hu⟩ := H
  refine wpAny_call ?_
  refine' Jn.enterSC ?k1 ?k2 ?k3 ?k4 ?k5 ?kA ?kF ?kK ?k6 ?k7 ?k8 ?k9 ?kB ?kD ?_ ?c2 ?c3 ?c4
  case kA => exact rfl
  case kF => exact rfl
  case kK => assumption
  case k1 => k_asm
  case k2 => k_asm
  case k3 => k_asm
  case k4 => k_asm
  case k5 => k_asm
  case k6 => k_is
  case k7 => k_is
  case k8 => ktr_room
  case k9 => exact BindsTo.of_eq rfl
  case kB => exact rfl
  case kD => decide +kernel
  case c2 => exact rfl
  case c3 => exact rfl
  case c4 => exact rfl
  k_whole
  intro g L1 h1 tk1 cells FG F1 N1 Y1 B1 X1 T1 D1 l1
  obtain ⟨oc, ol, hE, dc, dl⟩ := cells_two Y1
  subst hE
  clear Y1
  replace dl : ol.data = .cell none := dl.trans (by with_unfolding_all rfl)
  replace dc : oc.data = .cell none := dc.trans (by with_unfolding_all rfl)
  k_lt l1
  simp only [List.cons_append, List.nil_append] at N1
  (try dsimp only)
  (try k_lift B1)
  (try k_fold)
  have F1 := fr_nm F1 (ps := [("c", .ref cc)]) (nm_cons (by with_unfolding_all rfl) nm_nil)
  let Jc : Heap → Prop := fun h' => ∀ G : Prop, (∀ (m' : Str → Option Value) (st bi z : Int) (ts tbi tz : Tok), Fr g L1 h' m' → News g L1 h' ((L1 + 1 + 1, oc) :: (L1 + 1, ol) :: (153, tabObj tb) :: news) → NmAre m' [("c", .ref cc), ("step", .int st ts), ("bits", .int bi tbi), ("size", .int z tz)] → (0 < st) → ((Builtin.Int.intBits st : Int) ≤ 2051) → (SizeOk bi z) → G) → G
  with_reducible refine Jn.ckpt 3 Jc ?_ ?_
  · dsimp only [List.take]
    k_fold
    let Jc : Heap → Prop := fun h' => ∀ G : Prop, (∀ (m' : Str → Option Value) (st : Int) (ts : Tok), Fr g L1 h' m' → News g L1 h' ((L1 + 1 + 1, oc) :: (L1 + 1, ol) :: (153, tabObj tb) :: news) → NmAre m' [("c", .ref cc), ("step", .int st ts)] → ((0 < st ∧ (Builtin.Int.intBits st : Int) ≤ 2051)) → G) → G
    with_reducible refine Jn.ckpt 1 Jc ?_ ?_
    · dsimp only [List.take]
      k_fold
      (repeat' (first | ((with_reducible refine Blk.into ?_); (first | (with_reducible ((with_reducible show wpAny _ _ (subscriptTail _ _ (Value.ref _) (Value.int _ _)) _ _ _); (k_dflt (refine my_item (by k_asm) (by repeat (first | with_reducible assumption | refine memS ?_)) (by decide) (by decide) (by with_unfolding_all rfl) ?_ (by with_unfolding_all rfl))); (try simp only [Int.reduceToNat, List.getElem_toArray, List.getElem_cons_zero, List.getElem_cons_succ]))) | (with_reducible ((with_reducible show wpAny _ _ (subscriptTail _ _ (Value.ref _) (Value.int _ _)) _ _ _); (k_dflt (refine item_tupleT (News.isTup (by k_asm) (by repeat (first | with_reducible assumption | refine memS ?_))) (by decide) (by decide) (by rfl) (by rfl) ?_)))) | (with_reducible ((with_reducible show wpAny _ _ (binaryOp .Pow (Value.int 2 _) (Value.int _ _)) _ _ _); (refine my_pow (by omega) (by omega) ?_); intro v' p' e'; cases p'; (try replace e' := pow32 e'); (try replace e' := pow64 e'))) | (with_reducible ((with_reducible show wpAny _ _ (binaryOp .Mod (Value.int _ _) (Value.int _ _)) _ _ _); (refine my_mod (by omega) ?_); intro r' e' r0' r1')) | (with_reducible ((with_reducible show wpAny _ _ (binaryOp .Mult (Value.int _ _) (Value.int _ _)) _ _ _); (refine my_mul (by omega) ?_))) | (with_reducible ((with_reducible show wpAny _ _ (binaryOp .FloorDiv (Value.int _ _) (Value.int _ _)) _ _ _); (refine my_fdiv (by omega) (by omega) ?_); intro q' e' b')) | (with_reducible ((with_reducible show wpAny _ _ (binaryOp .BitXor (Value.int _ _) (Value.int 1 _)) _ _ _); (refine my_xor ?_); intro x' e')) | (with_reducible ((with_reducible show wpAny _ _ (call (Value.ref 137) _) _ _ _); k_dflt (refine' record_call ?_ (by exact ⟨by k_asm, by k_asm, by k_asm, by k_asm, by k_asm, by first | exact rfl | (first | with_reducible assumption | assumption), by (simp only [depth_deeper, depth_in1, ktrTop]; omega), by (simp only [units_deeper, units_in1, ktrTop]; omega)⟩) (by repeat (first | with_reducible assumption | exact List.Mem.head _ | refine memS ?_)) ?_; · rfl); intro t' h' tk' F' N'; (try k_sweep))) | (with_reducible ((with_reducible show wpAny _ _ (call (Value.ref 130) _) _ _ _); k_dflt (refine low_call (by omega) (by exact ⟨by k_asm, by k_asm, by k_asm, by k_asm, by k_asm, by first | exact rfl | (first | with_reducible assumption | assumption), by (simp only [depth_deeper, depth_in1, ktrTop]; omega), by (simp only [units_deeper, units_in1, ktrTop]; omega)⟩) ?_); intro t' h' tk' F' N'; (try k_sweep))) | (with_reducible ((with_reducible show wpAny _ _ (call (Value.ref 151) _) _ _ _); k_dflt (refine back_call (by omega) (by omega) (by omega) (by omega) (by exact ⟨by k_asm, by k_asm, by k_asm, by k_asm, by k_asm, by first | exact rfl | (first | with_reducible assumption | assumption), by (simp only [depth_deeper, depth_in1, ktrTop]; omega), by (simp only [units_deeper, units_in1, ktrTop]; omega)⟩) ?_); intro V' P' D' uV' uP' c' h' tk' eV' eP0' eP1' F' N' l1'; (have l1' := allLt_of l1'); (simp only [AllLt] at l1'); (try k_sweep))) | (with_reducible ((with_reducible show wpAny _ _ (binaryOp .Add (Value.bytes _ _) (Value.bytes _ _)) _ _ _); ((first | (with_reducible refine my_badd ?_ ?_) | refine my_badd (a := [_, _, _, _]) ?_ ?_ | refine my_badd ?_ ?_); · (simp only [List.length_append, lowL_length, List.length_cons, List.length_nil]; omega)); intro t' tk')) | (with_reducible ((with_reducible show wpAny _ _ (subscriptTail _ (Expr.Slice none (some (Expr.Name ("cut" : Str) _)) none _) (Value.ref _) (Value.ref _)) _ _ _); k_dflt (refine' kmk_slice (by k_asm) (by k_asm) (by kmk_list) (by kmk_part) (by kmk_part) ?_ (by with_unfolding_all rfl) (by kmk_pure) (by (show _ ≤ 16777216; omega))); intro D' h' F' N' l1; (try k_lt l1); (try k_sweep))) | (with_reducible ((with_reducible show wpAny _ _ (compareOp .Eq (Value.ref _) (Value.ref _)) _ _ _); first | (first | refine eq_empty_yes (by k_asm) (by repeat (first | with_reducible assumption | exact List.Mem.head _ | refine memS ?_)) (by exact List.Mem.head _) (by ((try simp only [units_deeper, units_in1, ktrTop, cLine_is]); omega)) ?_ | refine eq_empty_no (by k_asm) (by repeat (first | with_reducible assumption | exact List.Mem.head _ | refine memS ?_)) (by exact List.Mem.head _) (by ((try simp only [units_deeper, units_in1, ktrTop, cLine_is]); omega)) ?_) | k_dflt (first | refine eq_empty_yes (by k_asm) (by repeat (first | with_reducible assumption | exact List.Mem.head _ | refine memS ?_)) (by exact List.Mem.head _) (by ((try simp only [units_deeper, units_in1, ktrTop, cLine_is]); omega)) ?_ | refine eq_empty_no (by k_asm) (by repeat (first | with_reducible assumption | exact List.Mem.head _ | refine memS ?_)) (by exact List.Mem.head _) (by ((try simp only [units_deeper, units_in1, ktrTop, cLine_is]); omega)) ?_))) | ((with_reducible show wpAny _ _ (call (Value.builtin "len") [Value.ref _]) _ _ _); k_dflt (refine my_lenL (by k_asm) (by repeat (first | with_reducible assumption | exact List.Mem.head _ | refine memS ?_)) (by omega) ?_); intro _ _))) | (k_unfold; (try dsimp only)) | (k_end; wrow_close) | walk1 | (dsimp only; walk1) | (leave1; (try dsimp only))))
      (refine ⟨_, _, rfl, ?_⟩; intro G k; refine k _ _ _ (by k_asm) (by k_asm) (by repeat (first | exact nm_nil | refine nm_cons (by with_unfolding_all rfl) ?_)) ?_)
      exact step_ok (by assumption) (by omega)
    · intro h2 tk2 hJ
      with_reducible refine hJ _ ?_
      clear hJ Jc
      rintro m2 st ts F2 N2 M2 hs
      with_reducible refine fr_fold F2 M2 ?_
      clear F2
      intro mm F2
      clear M2 F1 N1
      dsimp only [List.take, List.drop]
      (repeat' (first | ((with_reducible refine Blk.into ?_); (first | (with_reducible ((with_reducible show wpAny _ _ (subscriptTail _ _ (Value.ref _) (Value.int _ _)) _ _ _); (k_dflt (refine my_item (by k_asm) (by repeat (first | with_reducible assumption | refine memS ?_)) (by decide) (by decide) (by with_unfolding_all rfl) ?_ (by with_unfolding_all rfl))); (try simp only [Int.reduceToNat, List.getElem_toArray, List.getElem_cons_zero, List.getElem_cons_succ]))) | (with_reducible ((with_reducible show wpAny _ _ (subscriptTail _ _ (Value.ref _) (Value.int _ _)) _ _ _); (k_dflt (refine item_tupleT (News.isTup (by k_asm) (by repeat (first | with_reducible assumption | refine memS ?_))) (by decide) (by decide) (by rfl) (by rfl) ?_)))) | (with_reducible ((with_reducible show wpAny _ _ (binaryOp .Pow (Value.int 2 _) (Value.int _ _)) _ _ _); (refine my_pow (by omega) (by omega) ?_); intro v' p' e'; cases p'; (try replace e' := pow32 e'); (try replace e' := pow64 e'))) | (with_reducible ((with_reducible show wpAny _ _ (binaryOp .Mod (Value.int _ _) (Value.int _ _)) _ _ _); (refine my_mod (by omega) ?_); intro r' e' r0' r1')) | (with_reducible ((with_reducible show wpAny _ _ (binaryOp .Mult (Value.int _ _) (Value.int _ _)) _ _ _); (refine my_mul (by omega) ?_))) | (with_reducible ((with_reducible show wpAny _ _ (binaryOp .FloorDiv (Value.int _ _) (Value.int _ _)) _ _ _); (refine my_fdiv (by omega) (by omega) ?_); intro q' e' b')) | (with_reducible ((with_reducible show wpAny _ _ (binaryOp .BitXor (Value.int _ _) (Value.int 1 _)) _ _ _); (refine my_xor ?_); intro x' e')) | (with_reducible ((with_reducible show wpAny _ _ (call (Value.ref 137) _) _ _ _); k_dflt (refine' record_call ?_ (by exact ⟨by k_asm, by k_asm, by k_asm, by k_asm, by k_asm, by first | exact rfl | (first | with_reducible assumption | assumption), by (simp only [depth_deeper, depth_in1, ktrTop]; omega), by (simp only [units_deeper, units_in1, ktrTop]; omega)⟩) (by repeat (first | with_reducible assumption | exact List.Mem.head _ | refine memS ?_)) ?_; · rfl); intro t' h' tk' F' N'; (try k_sweep))) | (with_reducible ((with_reducible show wpAny _ _ (call (Value.ref 130) _) _ _ _); k_dflt (refine low_call (by omega) (by exact ⟨by k_asm, by k_asm, by k_asm, by k_asm, by k_asm, by first | exact rfl | (first | with_reducible assumption | assumption), by (simp only [depth_deeper, depth_in1, ktrTop]; omega), by (simp only [units_deeper, units_in1, ktrTop]; omega)⟩) ?_); intro t' h' tk' F' N'; (try k_sweep))) | (with_reducible ((with_reducible show wpAny _ _ (call (Value.ref 151) _) _ _ _); k_dflt (refine back_call (by omega) (by omega) (by omega) (by omega) (by exact ⟨by k_asm, by k_asm, by k_asm, by k_asm, by k_asm, by first | exact rfl | (first | with_reducible assumption | assumption), by (simp only [depth_deeper, depth_in1, ktrTop]; omega), by (simp only [units_deeper, units_in1, ktrTop]; omega)⟩) ?_); intro V' P' D' uV' uP' c' h' tk' eV' eP0' eP1' F' N' l1'; (have l1' := allLt_of l1'); (simp only [AllLt] at l1'); (try k_sweep))) | (with_reducible ((with_reducible show wpAny _ _ (binaryOp .Add (Value.bytes _ _) (Value.bytes _ _)) _ _ _); ((first | (with_reducible refine my_badd ?_ ?_) | refine my_badd (a := [_, _, _, _]) ?_ ?_ | refine my_badd ?_ ?_); · (simp only [List.length_append, lowL_length, List.length_cons, List.length_nil]; omega)); intro t' tk')) | (with_reducible ((with_reducible show wpAny _ _ (subscriptTail _ (Expr.Slice none (some (Expr.Name ("cut" : Str) _)) none _) (Value.ref _) (Value.ref _)) _ _ _); k_dflt (refine' kmk_slice (by k_asm) (by k_asm) (by kmk_list) (by kmk_part) (by kmk_part) ?_ (by with_unfolding_all rfl) (by kmk_pure) (by (show _ ≤ 16777216; omega))); intro D' h' F' N' l1; (try k_lt l1); (try k_sweep))) | (with_reducible ((with_reducible show wpAny _ _ (compareOp .Eq (Value.ref _) (Value.ref _)) _ _ _); first | (first | refine eq_empty_yes (by k_asm) (by repeat (first | with_reducible assumption | exact List.Mem.head _ | refine memS ?_)) (by exact List.Mem.head _) (by ((try simp only [units_deeper, units_in1, ktrTop, cLine_is]); omega)) ?_ | refine eq_empty_no (by k_asm) (by repeat (first | with_reducible assumption | exact List.Mem.head _ | refine memS ?_)) (by exact List.Mem.head _) (by ((try simp only [units_deeper, units_in1, ktrTop, cLine_is]); omega)) ?_) | k_dflt (first | refine eq_empty_yes (by k_asm) (by repeat (first | with_reducible assumption | exact List.Mem.head _ | refine memS ?_)) (by exact List.Mem.head _) (by ((try simp only [units_deeper, units_in1, ktrTop, cLine_is]); omega)) ?_ | refine eq_empty_no (by k_asm) (by repeat (first | with_reducible assumption | exact List.Mem.head _ | refine memS ?_)) (by exact List.Mem.head _) (by ((try simp only [units_deeper, units_in1, ktrTop, cLine_is]); omega)) ?_))) | ((with_reducible show wpAny _ _ (call (Value.builtin "len") [Value.ref _]) _ _ _); k_dflt (refine my_lenL (by k_asm) (by repeat (first | with_reducible assumption | exact List.Mem.head _ | refine memS ?_)) (by omega) ?_); intro _ _))) | (k_unfold; (try dsimp only)) | (k_end; wrow_close) | walk1 | (dsimp only; walk1) | (leave1; (try dsimp only))))
      (refine ⟨_, _, rfl, ?_⟩; intro G k; refine Jn.un3 (k _ _ _ _ _ _ _ (by k_asm) (by k_asm) (by repeat (first | exact nm_nil | refine nm_cons (by with_unfolding_all rfl) ?_))) ?_)
      exact ⟨hs.1, hs.2, size_ok (by omega) (by omega) (by assumption) (by assumption) (by assumption) (by assumption)⟩
  intro h2 tk2 hJ
  with_reducible refine hJ _ ?_
  clear hJ Jc
  rintro m2 st bi z ts tbi tz F2 N2 M2 hs0 hs1 hz
  with_reducible refine fr_fold F2 M2 ?_
  clear F2
  intro mm F2
  clear M2 F1 N1
  have g0 := hz.big
  have g1 := hz.b0
  have g2 := hz.b1
  have g3 := hz.bz
  let Jc : Heap → Prop := fun h' => ∀ G : Prop, (∀ (m' : Str → Option Value) (V P : Int) (tV tP : Tok), Fr g L1 h' m' → News g L1 h' ((L1 + 1 + 1, oc) :: (L1 + 1, ol) :: (153, tabObj tb) :: news) → NmAre m' [("c", .ref cc), ("bits", .int bi tbi), ("size", .int z tz), ("volume", .int V tV), ("place", .int P tP)] → (VolOk bi z V P) → G) → G
  with_reducible refine Jn.ckpt 3 Jc ?_ ?_
  · dsimp only [List.take, List.drop]
    k_fold
    (repeat' (first | ((with_reducible refine Blk.into ?_); (first | (with_reducible ((with_reducible show wpAny _ _ (subscriptTail _ _ (Value.ref _) (Value.int _ _)) _ _ _); (k_dflt (refine my_item (by k_asm) (by repeat (first | with_reducible assumption | refine memS ?_)) (by decide) (by decide) (by with_unfolding_all rfl) ?_ (by with_unfolding_all rfl))); (try simp only [Int.reduceToNat, List.getElem_toArray, List.getElem_cons_zero, List.getElem_cons_succ]))) | (with_reducible ((with_reducible show wpAny _ _ (subscriptTail _ _ (Value.ref _) (Value.int _ _)) _ _ _); (k_dflt (refine item_tupleT (News.isTup (by k_asm) (by repeat (first | with_reducible assumption | refine memS ?_))) (by decide) (by decide) (by rfl) (by rfl) ?_)))) | (with_reducible ((with_reducible show wpAny _ _ (binaryOp .Pow (Value.int 2 _) (Value.int _ _)) _ _ _); (refine my_pow (by omega) (by omega) ?_); intro v' p' e'; cases p'; (try replace e' := pow32 e'); (try replace e' := pow64 e'))) | (with_reducible ((with_reducible show wpAny _ _ (binaryOp .Mod (Value.int _ _) (Value.int _ _)) _ _ _); (refine my_mod (by omega) ?_); intro r' e' r0' r1')) | (with_reducible ((with_reducible show wpAny _ _ (binaryOp .Mult (Value.int _ _) (Value.int _ _)) _ _ _); (refine my_mul (by omega) ?_))) | (with_reducible ((with_reducible show wpAny _ _ (binaryOp .FloorDiv (Value.int _ _) (Value.int _ _)) _ _ _); (refine my_fdiv (by omega) (by omega) ?_); intro q' e' b')) | (with_reducible ((with_reducible show wpAny _ _ (binaryOp .BitXor (Value.int _ _) (Value.int 1 _)) _ _ _); (refine my_xor ?_); intro x' e')) | (with_reducible ((with_reducible show wpAny _ _ (call (Value.ref 137) _) _ _ _); k_dflt (refine' record_call ?_ (by exact ⟨by k_asm, by k_asm, by k_asm, by k_asm, by k_asm, by first | exact rfl | (first | with_reducible assumption | assumption), by (simp only [depth_deeper, depth_in1, ktrTop]; omega), by (simp only [units_deeper, units_in1, ktrTop]; omega)⟩) (by repeat (first | with_reducible assumption | exact List.Mem.head _ | refine memS ?_)) ?_; · rfl); intro t' h' tk' F' N'; (try k_sweep))) | (with_reducible ((with_reducible show wpAny _ _ (call (Value.ref 130) _) _ _ _); k_dflt (refine low_call (by omega) (by exact ⟨by k_asm, by k_asm, by k_asm, by k_asm, by k_asm, by first | exact rfl | (first | with_reducible assumption | assumption), by (simp only [depth_deeper, depth_in1, ktrTop]; omega), by (simp only [units_deeper, units_in1, ktrTop]; omega)⟩) ?_); intro t' h' tk' F' N'; (try k_sweep))) | (with_reducible ((with_reducible show wpAny _ _ (call (Value.ref 151) _) _ _ _); k_dflt (refine back_call (by omega) (by omega) (by omega) (by omega) (by exact ⟨by k_asm, by k_asm, by k_asm, by k_asm, by k_asm, by first | exact rfl | (first | with_reducible assumption | assumption), by (simp only [depth_deeper, depth_in1, ktrTop]; omega), by (simp only [units_deeper, units_in1, ktrTop]; omega)⟩) ?_); intro V' P' D' uV' uP' c' h' tk' eV' eP0' eP1' F' N' l1'; (have l1' := allLt_of l1'); (simp only [AllLt] at l1'); (try k_sweep))) | (with_reducible ((with_reducible show wpAny _ _ (binaryOp .Add (Value.bytes _ _) (Value.bytes _ _)) _ _ _); ((first | (with_reducible refine my_badd ?_ ?_) | refine my_badd (a := [_, _, _, _]) ?_ ?_ | refine my_badd ?_ ?_); · (simp only [List.length_append, lowL_length, List.length_cons, List.length_nil]; omega)); intro t' tk')) | (with_reducible ((with_reducible show wpAny _ _ (subscriptTail _ (Expr.Slice none (some (Expr.Name ("cut" : Str) _)) none _) (Value.ref _) (Value.ref _)) _ _ _); k_dflt (refine' kmk_slice (by k_asm) (by k_asm) (by kmk_list) (by kmk_part) (by kmk_part) ?_ (by with_unfolding_all rfl) (by kmk_pure) (by (show _ ≤ 16777216; omega))); intro D' h' F' N' l1; (try k_lt l1); (try k_sweep))) | (with_reducible ((with_reducible show wpAny _ _ (compareOp .Eq (Value.ref _) (Value.ref _)) _ _ _); first | (first | refine eq_empty_yes (by k_asm) (by repeat (first | with_reducible assumption | exact List.Mem.head _ | refine memS ?_)) (by exact List.Mem.head _) (by ((try simp only [units_deeper, units_in1, ktrTop, cLine_is]); omega)) ?_ | refine eq_empty_no (by k_asm) (by repeat (first | with_reducible assumption | exact List.Mem.head _ | refine memS ?_)) (by exact List.Mem.head _) (by ((try simp only [units_deeper, units_in1, ktrTop, cLine_is]); omega)) ?_) | k_dflt (first | refine eq_empty_yes (by k_asm) (by repeat (first | with_reducible assumption | exact List.Mem.head _ | refine memS ?_)) (by exact List.Mem.head _) (by ((try simp only [units_deeper, units_in1, ktrTop, cLine_is]); omega)) ?_ | refine eq_empty_no (by k_asm) (by repeat (first | with_reducible assumption | exact List.Mem.head _ | refine memS ?_)) (by exact List.Mem.head _) (by ((try simp only [units_deeper, units_in1, ktrTop, cLine_is]); omega)) ?_))) | ((with_reducible show wpAny _ _ (call (Value.builtin "len") [Value.ref _]) _ _ _); k_dflt (refine my_lenL (by k_asm) (by repeat (first | with_reducible assumption | exact List.Mem.head _ | refine memS ?_)) (by omega) ?_); intro _ _))) | (k_unfold; (try dsimp only)) | (k_end; wrow_close) | walk1 | (dsimp only; walk1) | (leave1; (try dsimp only))))
    all_goals (refine ⟨_, _, rfl, ?_⟩; intro G k; refine k _ _ _ _ _ (by k_asm) (by k_asm) (by repeat (first | exact nm_nil | refine nm_cons (by with_unfolding_all rfl) ?_)) ?_)
    · exact vol_ok (by assumption) (by assumption) g1 g2 ⟨by assumption, by assumption⟩ rfl (by omega) (by omega)
    · exact vol_ok (by assumption) (by assumption) g1 g2 ⟨by assumption, by assumption⟩ rfl (by omega) (by omega)
    · exact vol_zero (by omega) (by omega) g0
  intro h3 tk3 hJ
  with_reducible refine hJ _ ?_
  clear hJ Jc
  rintro m3 V P tV tP F3 N3 M3 hv
  with_reducible refine fr_fold F3 M3 ?_
  clear F3
  intro mm F3
  clear M3 F2 N2 hs0 hs1
  have v0 := hv.v0
  have v1 := hv.bv
  let Jc : Heap → Prop := fun h' => ∀ G : Prop, (∀ (m' : Str → Option Value) (e : Int) (te : Tok), Fr g L1 h' m' → News g L1 h' ((L1 + 1 + 1, oc) :: (L1 + 1, ol) :: (153, tabObj tb) :: news) → NmAre m' [("c", .ref cc), ("bits", .int bi tbi), ("size", .int z tz), ("volume", .int V tV), ("place", .int P tP), ("end", .int e te)] → (EndOk z V P e) → G) → G
  with_reducible refine Jn.ckpt 1 Jc ?_ ?_
  · dsimp only [List.take, List.drop]
    k_fold
    (repeat' (first | ((with_reducible refine Blk.into ?_); (first | (with_reducible ((with_reducible show wpAny _ _ (subscriptTail _ _ (Value.ref _) (Value.int _ _)) _ _ _); (k_dflt (refine my_item (by k_asm) (by repeat (first | with_reducible assumption | refine memS ?_)) (by decide) (by decide) (by with_unfolding_all rfl) ?_ (by with_unfolding_all rfl))); (try simp only [Int.reduceToNat, List.getElem_toArray, List.getElem_cons_zero, List.getElem_cons_succ]))) | (with_reducible ((with_reducible show wpAny _ _ (subscriptTail _ _ (Value.ref _) (Value.int _ _)) _ _ _); (k_dflt (refine item_tupleT (News.isTup (by k_asm) (by repeat (first | with_reducible assumption | refine memS ?_))) (by decide) (by decide) (by rfl) (by rfl) ?_)))) | (with_reducible ((with_reducible show wpAny _ _ (binaryOp .Pow (Value.int 2 _) (Value.int _ _)) _ _ _); (refine my_pow (by omega) (by omega) ?_); intro v' p' e'; cases p'; (try replace e' := pow32 e'); (try replace e' := pow64 e'))) | (with_reducible ((with_reducible show wpAny _ _ (binaryOp .Mod (Value.int _ _) (Value.int _ _)) _ _ _); (refine my_mod (by omega) ?_); intro r' e' r0' r1')) | (with_reducible ((with_reducible show wpAny _ _ (binaryOp .Mult (Value.int _ _) (Value.int _ _)) _ _ _); (refine my_mul (by omega) ?_))) | (with_reducible ((with_reducible show wpAny _ _ (binaryOp .FloorDiv (Value.int _ _) (Value.int _ _)) _ _ _); (refine my_fdiv (by omega) (by omega) ?_); intro q' e' b')) | (with_reducible ((with_reducible show wpAny _ _ (binaryOp .BitXor (Value.int _ _) (Value.int 1 _)) _ _ _); (refine my_xor ?_); intro x' e')) | (with_reducible ((with_reducible show wpAny _ _ (call (Value.ref 137) _) _ _ _); k_dflt (refine' record_call ?_ (by exact ⟨by k_asm, by k_asm, by k_asm, by k_asm, by k_asm, by first | exact rfl | (first | with_reducible assumption | assumption), by (simp only [depth_deeper, depth_in1, ktrTop]; omega), by (simp only [units_deeper, units_in1, ktrTop]; omega)⟩) (by repeat (first | with_reducible assumption | exact List.Mem.head _ | refine memS ?_)) ?_; · rfl); intro t' h' tk' F' N'; (try k_sweep))) | (with_reducible ((with_reducible show wpAny _ _ (call (Value.ref 130) _) _ _ _); k_dflt (refine low_call (by omega) (by exact ⟨by k_asm, by k_asm, by k_asm, by k_asm, by k_asm, by first | exact rfl | (first | with_reducible assumption | assumption), by (simp only [depth_deeper, depth_in1, ktrTop]; omega), by (simp only [units_deeper, units_in1, ktrTop]; omega)⟩) ?_); intro t' h' tk' F' N'; (try k_sweep))) | (with_reducible ((with_reducible show wpAny _ _ (call (Value.ref 151) _) _ _ _); k_dflt (refine back_call (by omega) (by omega) (by omega) (by omega) (by exact ⟨by k_asm, by k_asm, by k_asm, by k_asm, by k_asm, by first | exact rfl | (first | with_reducible assumption | assumption), by (simp only [depth_deeper, depth_in1, ktrTop]; omega), by (simp only [units_deeper, units_in1, ktrTop]; omega)⟩) ?_); intro V' P' D' uV' uP' c' h' tk' eV' eP0' eP1' F' N' l1'; (have l1' := allLt_of l1'); (simp only [AllLt] at l1'); (try k_sweep))) | (with_reducible ((with_reducible show wpAny _ _ (binaryOp .Add (Value.bytes _ _) (Value.bytes _ _)) _ _ _); ((first | (with_reducible refine my_badd ?_ ?_) | refine my_badd (a := [_, _, _, _]) ?_ ?_ | refine my_badd ?_ ?_); · (simp only [List.length_append, lowL_length, List.length_cons, List.length_nil]; omega)); intro t' tk')) | (with_reducible ((with_reducible show wpAny _ _ (subscriptTail _ (Expr.Slice none (some (Expr.Name ("cut" : Str) _)) none _) (Value.ref _) (Value.ref _)) _ _ _); k_dflt (refine' kmk_slice (by k_asm) (by k_asm) (by kmk_list) (by kmk_part) (by kmk_part) ?_ (by with_unfolding_all rfl) (by kmk_pure) (by (show _ ≤ 16777216; omega))); intro D' h' F' N' l1; (try k_lt l1); (try k_sweep))) | (with_reducible ((with_reducible show wpAny _ _ (compareOp .Eq (Value.ref _) (Value.ref _)) _ _ _); first | (first | refine eq_empty_yes (by k_asm) (by repeat (first | with_reducible assumption | exact List.Mem.head _ | refine memS ?_)) (by exact List.Mem.head _) (by ((try simp only [units_deeper, units_in1, ktrTop, cLine_is]); omega)) ?_ | refine eq_empty_no (by k_asm) (by repeat (first | with_reducible assumption | exact List.Mem.head _ | refine memS ?_)) (by exact List.Mem.head _) (by ((try simp only [units_deeper, units_in1, ktrTop, cLine_is]); omega)) ?_) | k_dflt (first | refine eq_empty_yes (by k_asm) (by repeat (first | with_reducible assumption | exact List.Mem.head _ | refine memS ?_)) (by exact List.Mem.head _) (by ((try simp only [units_deeper, units_in1, ktrTop, cLine_is]); omega)) ?_ | refine eq_empty_no (by k_asm) (by repeat (first | with_reducible assumption | exact List.Mem.head _ | refine memS ?_)) (by exact List.Mem.head _) (by ((try simp only [units_deeper, units_in1, ktrTop, cLine_is]); omega)) ?_))) | ((with_reducible show wpAny _ _ (call (Value.builtin "len") [Value.ref _]) _ _ _); k_dflt (refine my_lenL (by k_asm) (by repeat (first | with_reducible assumption | exact List.Mem.head _ | refine memS ?_)) (by omega) ?_); intro _ _))) | (k_unfold; (try dsimp only)) | (k_end; wrow_close) | walk1 | (dsimp only; walk1) | (leave1; (try dsimp only))))
    (refine ⟨_, _, rfl, ?_⟩; intro G k; refine k _ _ _ (by k_asm) (by k_asm) (by repeat (first | exact nm_nil | refine nm_cons (by with_unfolding_all rfl) ?_)) ?_)
    exact end_ok hv g0
  intro h4 tk4 hJ
  with_reducible refine hJ _ ?_
  clear hJ Jc
  rintro m4 e te F4 N4 M4 he
  with_reducible refine fr_fold F4 M4 ?_
  clear F4
  intro mm F4
  clear M4 F3 N3
  have p0 := hv.p0
  have vz := hv.zero
  have e0 := he.e0
  have ez := he.zero
  have eb := he.big
  let Jc : Heap → Prop := fun h' => ∀ G : Prop, (∀ (m' : Str → Option Value) (ga : Int) (tga : Tok), Fr g L1 h' m' → News g L1 h' ((L1 + 1 + 1, oc) :: (L1 + 1, ol) :: (153, tabObj tb) :: news) → NmAre m' [("c", .ref cc), ("bits", .int bi tbi), ("size", .int z tz), ("volume", .int V tV), ("place", .int P tP), ("end", .int e te), ("gap", .int ga tga)] → (0 ≤ ga) → (ga ≤ 3) → G) → G
  with_reducible refine Jn.ckpt 1 Jc ?_ ?_
  · dsimp only [List.take, List.drop]
    k_fold
    (repeat' (first | ((with_reducible refine Blk.into ?_); (first | (with_reducible ((with_reducible show wpAny _ _ (subscriptTail _ _ (Value.ref _) (Value.int _ _)) _ _ _); (k_dflt (refine my_item (by k_asm) (by repeat (first | with_reducible assumption | refine memS ?_)) (by decide) (by decide) (by with_unfolding_all rfl) ?_ (by with_unfolding_all rfl))); (try simp only [Int.reduceToNat, List.getElem_toArray, List.getElem_cons_zero, List.getElem_cons_succ]))) | (with_reducible ((with_reducible show wpAny _ _ (subscriptTail _ _ (Value.ref _) (Value.int _ _)) _ _ _); (k_dflt (refine item_tupleT (News.isTup (by k_asm) (by repeat (first | with_reducible assumption | refine memS ?_))) (by decide) (by decide) (by rfl) (by rfl) ?_)))) | (with_reducible ((with_reducible show wpAny _ _ (binaryOp .Pow (Value.int 2 _) (Value.int _ _)) _ _ _); (refine my_pow (by omega) (by omega) ?_); intro v' p' e'; cases p'; (try replace e' := pow32 e'); (try replace e' := pow64 e'))) | (with_reducible ((with_reducible show wpAny _ _ (binaryOp .Mod (Value.int _ _) (Value.int _ _)) _ _ _); (refine my_mod (by omega) ?_); intro r' e' r0' r1')) | (with_reducible ((with_reducible show wpAny _ _ (binaryOp .Mult (Value.int _ _) (Value.int _ _)) _ _ _); (refine my_mul (by omega) ?_))) | (with_reducible ((with_reducible show wpAny _ _ (binaryOp .FloorDiv (Value.int _ _) (Value.int _ _)) _ _ _); (refine my_fdiv (by omega) (by omega) ?_); intro q' e' b')) | (with_reducible ((with_reducible show wpAny _ _ (binaryOp .BitXor (Value.int _ _) (Value.int 1 _)) _ _ _); (refine my_xor ?_); intro x' e')) | (with_reducible ((with_reducible show wpAny _ _ (call (Value.ref 137) _) _ _ _); k_dflt (refine' record_call ?_ (by exact ⟨by k_asm, by k_asm, by k_asm, by k_asm, by k_asm, by first | exact rfl | (first | with_reducible assumption | assumption), by (simp only [depth_deeper, depth_in1, ktrTop]; omega), by (simp only [units_deeper, units_in1, ktrTop]; omega)⟩) (by repeat (first | with_reducible assumption | exact List.Mem.head _ | refine memS ?_)) ?_; · rfl); intro t' h' tk' F' N'; (try k_sweep))) | (with_reducible ((with_reducible show wpAny _ _ (call (Value.ref 130) _) _ _ _); k_dflt (refine low_call (by omega) (by exact ⟨by k_asm, by k_asm, by k_asm, by k_asm, by k_asm, by first | exact rfl | (first | with_reducible assumption | assumption), by (simp only [depth_deeper, depth_in1, ktrTop]; omega), by (simp only [units_deeper, units_in1, ktrTop]; omega)⟩) ?_); intro t' h' tk' F' N'; (try k_sweep))) | (with_reducible ((with_reducible show wpAny _ _ (call (Value.ref 151) _) _ _ _); k_dflt (refine back_call (by omega) (by omega) (by omega) (by omega) (by exact ⟨by k_asm, by k_asm, by k_asm, by k_asm, by k_asm, by first | exact rfl | (first | with_reducible assumption | assumption), by (simp only [depth_deeper, depth_in1, ktrTop]; omega), by (simp only [units_deeper, units_in1, ktrTop]; omega)⟩) ?_); intro V' P' D' uV' uP' c' h' tk' eV' eP0' eP1' F' N' l1'; (have l1' := allLt_of l1'); (simp only [AllLt] at l1'); (try k_sweep))) | (with_reducible ((with_reducible show wpAny _ _ (binaryOp .Add (Value.bytes _ _) (Value.bytes _ _)) _ _ _); ((first | (with_reducible refine my_badd ?_ ?_) | refine my_badd (a := [_, _, _, _]) ?_ ?_ | refine my_badd ?_ ?_); · (simp only [List.length_append, lowL_length, List.length_cons, List.length_nil]; omega)); intro t' tk')) | (with_reducible ((with_reducible show wpAny _ _ (subscriptTail _ (Expr.Slice none (some (Expr.Name ("cut" : Str) _)) none _) (Value.ref _) (Value.ref _)) _ _ _); k_dflt (refine' kmk_slice (by k_asm) (by k_asm) (by kmk_list) (by kmk_part) (by kmk_part) ?_ (by with_unfolding_all rfl) (by kmk_pure) (by (show _ ≤ 16777216; omega))); intro D' h' F' N' l1; (try k_lt l1); (try k_sweep))) | (with_reducible ((with_reducible show wpAny _ _ (compareOp .Eq (Value.ref _) (Value.ref _)) _ _ _); first | (first | refine eq_empty_yes (by k_asm) (by repeat (first | with_reducible assumption | exact List.Mem.head _ | refine memS ?_)) (by exact List.Mem.head _) (by ((try simp only [units_deeper, units_in1, ktrTop, cLine_is]); omega)) ?_ | refine eq_empty_no (by k_asm) (by repeat (first | with_reducible assumption | exact List.Mem.head _ | refine memS ?_)) (by exact List.Mem.head _) (by ((try simp only [units_deeper, units_in1, ktrTop, cLine_is]); omega)) ?_) | k_dflt (first | refine eq_empty_yes (by k_asm) (by repeat (first | with_reducible assumption | exact List.Mem.head _ | refine memS ?_)) (by exact List.Mem.head _) (by ((try simp only [units_deeper, units_in1, ktrTop, cLine_is]); omega)) ?_ | refine eq_empty_no (by k_asm) (by repeat (first | with_reducible assumption | exact List.Mem.head _ | refine memS ?_)) (by exact List.Mem.head _) (by ((try simp only [units_deeper, units_in1, ktrTop, cLine_is]); omega)) ?_))) | ((with_reducible show wpAny _ _ (call (Value.builtin "len") [Value.ref _]) _ _ _); k_dflt (refine my_lenL (by k_asm) (by repeat (first | with_reducible assumption | exact List.Mem.head _ | refine memS ?_)) (by omega) ?_); intro _ _))) | (k_unfold; (try dsimp only)) | (k_end; wrow_close) | walk1 | (dsimp only; walk1) | (leave1; (try dsimp only))))
    (refine ⟨_, _, rfl, ?_⟩; intro G k; refine Jn.un2 (k _ _ _ (by k_asm) (by k_asm) (by repeat (first | exact nm_nil | refine nm_cons (by with_unfolding_all rfl) ?_))) ?_)
    first | exact Cm.mxe (by omega) (by decide) | (and_intros <;> omega)
  intro h5 tk5 hJ
  with_reducible refine hJ _ ?_
  clear hJ Jc
  rintro m5 ga tga F5 N5 M5 ga0 ga1
  with_reducible refine fr_fold F5 M5 ?_
  clear F5
  intro mm F5
  clear M5 F4 N4
  let Jc : Heap → Prop := fun h' => ∀ G : Prop, (∀ (m' : Str → Option Value) (cd : Int) (ol oc : Obj) (tl th tcd : Tok), Fr g L1 h' m' → News g L1 h' ((L1 + 1 + 1, oc) :: (L1 + 1, ol) :: (153, tabObj tb) :: news) → NmAre m' [("c", .ref cc), ("bits", .int bi tbi), ("size", .int z tz), ("volume", .int V tV), ("place", .int P tP), ("end", .int e te), ("gap", .int ga tga), ("home", .int (e - 76 - ga) th)] → (ol.data = .cell (some (.int (e - 76) tl))) → (oc.data = .cell (some (.int cd tcd))) → (0 ≤ cd) → (cd < 2 ^ 64) → G) → G
  with_reducible refine Jn.ckpt 4 Jc ?_ ?_
  · dsimp only [List.take, List.drop]
    k_fold
    (repeat' (first | ((with_reducible refine Blk.into ?_); (first | (with_reducible ((with_reducible show wpAny _ _ (subscriptTail _ _ (Value.ref _) (Value.int _ _)) _ _ _); (k_dflt (refine my_item (by k_asm) (by repeat (first | with_reducible assumption | refine memS ?_)) (by decide) (by decide) (by with_unfolding_all rfl) ?_ (by with_unfolding_all rfl))); (try simp only [Int.reduceToNat, List.getElem_toArray, List.getElem_cons_zero, List.getElem_cons_succ]))) | (with_reducible ((with_reducible show wpAny _ _ (subscriptTail _ _ (Value.ref _) (Value.int _ _)) _ _ _); (k_dflt (refine item_tupleT (News.isTup (by k_asm) (by repeat (first | with_reducible assumption | refine memS ?_))) (by decide) (by decide) (by rfl) (by rfl) ?_)))) | (with_reducible ((with_reducible show wpAny _ _ (binaryOp .Pow (Value.int 2 _) (Value.int _ _)) _ _ _); (refine my_pow (by omega) (by omega) ?_); intro v' p' e'; cases p'; (try replace e' := pow32 e'); (try replace e' := pow64 e'))) | (with_reducible ((with_reducible show wpAny _ _ (binaryOp .Mod (Value.int _ _) (Value.int _ _)) _ _ _); (refine my_mod (by omega) ?_); intro r' e' r0' r1')) | (with_reducible ((with_reducible show wpAny _ _ (binaryOp .Mult (Value.int _ _) (Value.int _ _)) _ _ _); (refine my_mul (by omega) ?_))) | (with_reducible ((with_reducible show wpAny _ _ (binaryOp .FloorDiv (Value.int _ _) (Value.int _ _)) _ _ _); (refine my_fdiv (by omega) (by omega) ?_); intro q' e' b')) | (with_reducible ((with_reducible show wpAny _ _ (binaryOp .BitXor (Value.int _ _) (Value.int 1 _)) _ _ _); (refine my_xor ?_); intro x' e')) | (with_reducible ((with_reducible show wpAny _ _ (call (Value.ref 137) _) _ _ _); k_dflt (refine' record_call ?_ (by exact ⟨by k_asm, by k_asm, by k_asm, by k_asm, by k_asm, by first | exact rfl | (first | with_reducible assumption | assumption), by (simp only [depth_deeper, depth_in1, ktrTop]; omega), by (simp only [units_deeper, units_in1, ktrTop]; omega)⟩) (by repeat (first | with_reducible assumption | exact List.Mem.head _ | refine memS ?_)) ?_; · rfl); intro t' h' tk' F' N'; (try k_sweep))) | (with_reducible ((with_reducible show wpAny _ _ (call (Value.ref 130) _) _ _ _); k_dflt (refine low_call (by omega) (by exact ⟨by k_asm, by k_asm, by k_asm, by k_asm, by k_asm, by first | exact rfl | (first | with_reducible assumption | assumption), by (simp only [depth_deeper, depth_in1, ktrTop]; omega), by (simp only [units_deeper, units_in1, ktrTop]; omega)⟩) ?_); intro t' h' tk' F' N'; (try k_sweep))) | (with_reducible ((with_reducible show wpAny _ _ (call (Value.ref 151) _) _ _ _); k_dflt (refine back_call (by omega) (by omega) (by omega) (by omega) (by exact ⟨by k_asm, by k_asm, by k_asm, by k_asm, by k_asm, by first | exact rfl | (first | with_reducible assumption | assumption), by (simp only [depth_deeper, depth_in1, ktrTop]; omega), by (simp only [units_deeper, units_in1, ktrTop]; omega)⟩) ?_); intro V' P' D' uV' uP' c' h' tk' eV' eP0' eP1' F' N' l1'; (have l1' := allLt_of l1'); (simp only [AllLt] at l1'); (try k_sweep))) | (with_reducible ((with_reducible show wpAny _ _ (binaryOp .Add (Value.bytes _ _) (Value.bytes _ _)) _ _ _); ((first | (with_reducible refine my_badd ?_ ?_) | refine my_badd (a := [_, _, _, _]) ?_ ?_ | refine my_badd ?_ ?_); · (simp only [List.length_append, lowL_length, List.length_cons, List.length_nil]; omega)); intro t' tk')) | (with_reducible ((with_reducible show wpAny _ _ (subscriptTail _ (Expr.Slice none (some (Expr.Name ("cut" : Str) _)) none _) (Value.ref _) (Value.ref _)) _ _ _); k_dflt (refine' kmk_slice (by k_asm) (by k_asm) (by kmk_list) (by kmk_part) (by kmk_part) ?_ (by with_unfolding_all rfl) (by kmk_pure) (by (show _ ≤ 16777216; omega))); intro D' h' F' N' l1; (try k_lt l1); (try k_sweep))) | (with_reducible ((with_reducible show wpAny _ _ (compareOp .Eq (Value.ref _) (Value.ref _)) _ _ _); first | (first | refine eq_empty_yes (by k_asm) (by repeat (first | with_reducible assumption | exact List.Mem.head _ | refine memS ?_)) (by exact List.Mem.head _) (by ((try simp only [units_deeper, units_in1, ktrTop, cLine_is]); omega)) ?_ | refine eq_empty_no (by k_asm) (by repeat (first | with_reducible assumption | exact List.Mem.head _ | refine memS ?_)) (by exact List.Mem.head _) (by ((try simp only [units_deeper, units_in1, ktrTop, cLine_is]); omega)) ?_) | k_dflt (first | refine eq_empty_yes (by k_asm) (by repeat (first | with_reducible assumption | exact List.Mem.head _ | refine memS ?_)) (by exact List.Mem.head _) (by ((try simp only [units_deeper, units_in1, ktrTop, cLine_is]); omega)) ?_ | refine eq_empty_no (by k_asm) (by repeat (first | with_reducible assumption | exact List.Mem.head _ | refine memS ?_)) (by exact List.Mem.head _) (by ((try simp only [units_deeper, units_in1, ktrTop, cLine_is]); omega)) ?_))) | ((with_reducible show wpAny _ _ (call (Value.builtin "len") [Value.ref _]) _ _ _); k_dflt (refine my_lenL (by k_asm) (by repeat (first | with_reducible assumption | exact List.Mem.head _ | refine memS ?_)) (by omega) ?_); intro _ _))) | (k_unfold; (try dsimp only)) | (k_end; wrow_close) | walk1 | (dsimp only; walk1) | (leave1; (try dsimp only))))
    all_goals (refine ⟨_, _, rfl, ?_⟩; intro G k; refine Jn.un4 (k _ _ _ _ _ _ _ (by k_asm) (by k_asm) (by repeat (first | exact nm_nil | refine nm_cons (by with_unfolding_all rfl) ?_))) ⟨by assumption, by assumption, ?_⟩)
    · first | exact Cm.mx (by omega) (by decide) | exact ⟨Cm.mx (by omega) (by decide), Cm.mx (by omega) (by decide)⟩ | (and_intros <;> omega)
    · first | exact Cm.mx (by omega) (by decide) | exact ⟨Cm.mx (by omega) (by decide), Cm.mx (by omega) (by decide)⟩ | (and_intros <;> omega)
    · first | exact Cm.mx (by omega) (by decide) | exact ⟨Cm.mx (by omega) (by decide), Cm.mx (by omega) (by decide)⟩ | (and_intros <;> omega)
    · first | exact Cm.mx (by omega) (by decide) | exact ⟨Cm.mx (by omega) (by decide), Cm.mx (by omega) (by decide)⟩ | (and_intros <;> omega)
  clear dl dc
  intro h6 tk6 hJ
  with_reducible refine hJ _ ?_
  clear hJ Jc
  rintro m6 cd ol' oc' tl th tcd F6 N6 M6 dl dc cd0 cd1
  with_reducible refine fr_fold F6 M6 ?_
  clear F6
  intro mm F6
  clear M6 F5 N5
  let Jc : Heap → Prop := fun h' => ∀ G : Prop, (∀ (m' : Str → Option Value) (ki di ds : Int) (tki tdi tds : Tok), Fr g L1 h' m' → News g L1 h' ((L1 + 1 + 1, oc') :: (L1 + 1, ol') :: (153, tabObj tb) :: news) → NmAre m' [("c", .ref cc), ("bits", .int bi tbi), ("size", .int z tz), ("volume", .int V tV), ("place", .int P tP), ("end", .int e te), ("gap", .int ga tga), ("home", .int (e - 76 - ga) th), ("kind", .int ki tki), ("disk", .int di tdi), ("disks", .int ds tds)] → (0 ≤ ki) → ((0 ≤ di ∧ di < 2 ^ 32)) → (0 ≤ ds) → (ds < 2 ^ 32) → G) → G
  with_reducible refine Jn.ckpt 3 Jc ?_ ?_
  · dsimp only [List.take, List.drop]
    k_fold
    (repeat' (first | ((with_reducible refine Blk.into ?_); (first | (with_reducible ((with_reducible show wpAny _ _ (subscriptTail _ _ (Value.ref _) (Value.int _ _)) _ _ _); (k_dflt (refine my_item (by k_asm) (by repeat (first | with_reducible assumption | refine memS ?_)) (by decide) (by decide) (by with_unfolding_all rfl) ?_ (by with_unfolding_all rfl))); (try simp only [Int.reduceToNat, List.getElem_toArray, List.getElem_cons_zero, List.getElem_cons_succ]))) | (with_reducible ((with_reducible show wpAny _ _ (subscriptTail _ _ (Value.ref _) (Value.int _ _)) _ _ _); (k_dflt (refine item_tupleT (News.isTup (by k_asm) (by repeat (first | with_reducible assumption | refine memS ?_))) (by decide) (by decide) (by rfl) (by rfl) ?_)))) | (with_reducible ((with_reducible show wpAny _ _ (binaryOp .Pow (Value.int 2 _) (Value.int _ _)) _ _ _); (refine my_pow (by omega) (by omega) ?_); intro v' p' e'; cases p'; (try replace e' := pow32 e'); (try replace e' := pow64 e'))) | (with_reducible ((with_reducible show wpAny _ _ (binaryOp .Mod (Value.int _ _) (Value.int _ _)) _ _ _); (refine my_mod (by omega) ?_); intro r' e' r0' r1')) | (with_reducible ((with_reducible show wpAny _ _ (binaryOp .Mult (Value.int _ _) (Value.int _ _)) _ _ _); (refine my_mul (by omega) ?_))) | (with_reducible ((with_reducible show wpAny _ _ (binaryOp .FloorDiv (Value.int _ _) (Value.int _ _)) _ _ _); (refine my_fdiv (by omega) (by omega) ?_); intro q' e' b')) | (with_reducible ((with_reducible show wpAny _ _ (binaryOp .BitXor (Value.int _ _) (Value.int 1 _)) _ _ _); (refine my_xor ?_); intro x' e')) | (with_reducible ((with_reducible show wpAny _ _ (call (Value.ref 137) _) _ _ _); k_dflt (refine' record_call ?_ (by exact ⟨by k_asm, by k_asm, by k_asm, by k_asm, by k_asm, by first | exact rfl | (first | with_reducible assumption | assumption), by (simp only [depth_deeper, depth_in1, ktrTop]; omega), by (simp only [units_deeper, units_in1, ktrTop]; omega)⟩) (by repeat (first | with_reducible assumption | exact List.Mem.head _ | refine memS ?_)) ?_; · rfl); intro t' h' tk' F' N'; (try k_sweep))) | (with_reducible ((with_reducible show wpAny _ _ (call (Value.ref 130) _) _ _ _); k_dflt (refine low_call (by omega) (by exact ⟨by k_asm, by k_asm, by k_asm, by k_asm, by k_asm, by first | exact rfl | (first | with_reducible assumption | assumption), by (simp only [depth_deeper, depth_in1, ktrTop]; omega), by (simp only [units_deeper, units_in1, ktrTop]; omega)⟩) ?_); intro t' h' tk' F' N'; (try k_sweep))) | (with_reducible ((with_reducible show wpAny _ _ (call (Value.ref 151) _) _ _ _); k_dflt (refine back_call (by omega) (by omega) (by omega) (by omega) (by exact ⟨by k_asm, by k_asm, by k_asm, by k_asm, by k_asm, by first | exact rfl | (first | with_reducible assumption | assumption), by (simp only [depth_deeper, depth_in1, ktrTop]; omega), by (simp only [units_deeper, units_in1, ktrTop]; omega)⟩) ?_); intro V' P' D' uV' uP' c' h' tk' eV' eP0' eP1' F' N' l1'; (have l1' := allLt_of l1'); (simp only [AllLt] at l1'); (try k_sweep))) | (with_reducible ((with_reducible show wpAny _ _ (binaryOp .Add (Value.bytes _ _) (Value.bytes _ _)) _ _ _); ((first | (with_reducible refine my_badd ?_ ?_) | refine my_badd (a := [_, _, _, _]) ?_ ?_ | refine my_badd ?_ ?_); · (simp only [List.length_append, lowL_length, List.length_cons, List.length_nil]; omega)); intro t' tk')) | (with_reducible ((with_reducible show wpAny _ _ (subscriptTail _ (Expr.Slice none (some (Expr.Name ("cut" : Str) _)) none _) (Value.ref _) (Value.ref _)) _ _ _); k_dflt (refine' kmk_slice (by k_asm) (by k_asm) (by kmk_list) (by kmk_part) (by kmk_part) ?_ (by with_unfolding_all rfl) (by kmk_pure) (by (show _ ≤ 16777216; omega))); intro D' h' F' N' l1; (try k_lt l1); (try k_sweep))) | (with_reducible ((with_reducible show wpAny _ _ (compareOp .Eq (Value.ref _) (Value.ref _)) _ _ _); first | (first | refine eq_empty_yes (by k_asm) (by repeat (first | with_reducible assumption | exact List.Mem.head _ | refine memS ?_)) (by exact List.Mem.head _) (by ((try simp only [units_deeper, units_in1, ktrTop, cLine_is]); omega)) ?_ | refine eq_empty_no (by k_asm) (by repeat (first | with_reducible assumption | exact List.Mem.head _ | refine memS ?_)) (by exact List.Mem.head _) (by ((try simp only [units_deeper, units_in1, ktrTop, cLine_is]); omega)) ?_) | k_dflt (first | refine eq_empty_yes (by k_asm) (by repeat (first | with_reducible assumption | exact List.Mem.head _ | refine memS ?_)) (by exact List.Mem.head _) (by ((try simp only [units_deeper, units_in1, ktrTop, cLine_is]); omega)) ?_ | refine eq_empty_no (by k_asm) (by repeat (first | with_reducible assumption | exact List.Mem.head _ | refine memS ?_)) (by exact List.Mem.head _) (by ((try simp only [units_deeper, units_in1, ktrTop, cLine_is]); omega)) ?_))) | ((with_reducible show wpAny _ _ (call (Value.builtin "len") [Value.ref _]) _ _ _); k_dflt (refine my_lenL (by k_asm) (by repeat (first | with_reducible assumption | exact List.Mem.head _ | refine memS ?_)) (by omega) ?_); intro _ _))) | (k_unfold; (try dsimp only)) | (k_end; wrow_close) | walk1 | (dsimp only; walk1) | (leave1; (try dsimp only))))
    all_goals (refine ⟨_, _, rfl, ?_⟩; intro G k; refine Jn.un4 (k _ _ _ _ _ _ _ (by k_asm) (by k_asm) (by repeat (first | exact nm_nil | refine nm_cons (by with_unfolding_all rfl) ?_))) ?_)
    all_goals (and_intros <;> omega)
  intro h7 tk7 hJ
  with_reducible refine hJ _ ?_
  clear hJ Jc
  rintro m7 ki di ds tki tdi tds F7 N7 M7 ki0 ⟨di0, di1⟩ ds0 ds1
  with_reducible refine fr_fold F7 M7 ?_
  clear F7
  intro mm F7
  clear M7 F6 N6
  let Jc : Heap → Prop := fun h' => ∀ G : Prop, (∀ (m' : Str → Option Value) (fa la ra : Addr) (f0 f1 f2 f3 ln : Int) (tf0 tf1 tf2 tf3 tf4 tf5 tln tbe : Tok) (cf cl cr : Nat), Fr g L1 h' m' → News g L1 h' ((ra, listOf #[] cr) :: (la, listOf #[] cl) :: (fa, listOf #[.int f0 tf0, .int f1 tf1, .int f2 tf2, .int f3 tf3, .int ln tf4, .int (cd - ln) tf5] cf) :: (L1 + 1 + 1, oc') :: (L1 + 1, ol') :: (153, tabObj tb) :: news) → NmAre m' [("c", .ref cc), ("bits", .int bi tbi), ("size", .int z tz), ("volume", .int V tV), ("place", .int P tP), ("end", .int e te), ("gap", .int ga tga), ("home", .int (e - 76 - ga) th), ("kind", .int ki tki), ("disk", .int di tdi), ("disks", .int ds tds),
      ("length", .int ln tln), ("begin", .int (cd - ln) tbe), ("facts", .ref fa), ("laid", .ref la), ("records", .ref ra)] → (Facts f0 f1 f2 f3 ln cd) → (@LT.lt Nat instLTNat (L1 + 1) fa) → (@LT.lt Nat instLTNat fa la) → (@LT.lt Nat instLTNat la ra) → G) → G
  with_reducible refine Jn.ckpt 5 Jc ?_ ?_
  · dsimp only [List.take, List.drop]
    k_fold
    (repeat' (first | ((with_reducible refine Blk.into ?_); (first | (with_reducible ((with_reducible show wpAny _ _ (subscriptTail _ _ (Value.ref _) (Value.int _ _)) _ _ _); (k_dflt (refine my_item (by k_asm) (by repeat (first | with_reducible assumption | refine memS ?_)) (by decide) (by decide) (by with_unfolding_all rfl) ?_ (by with_unfolding_all rfl))); (try simp only [Int.reduceToNat, List.getElem_toArray, List.getElem_cons_zero, List.getElem_cons_succ]))) | (with_reducible ((with_reducible show wpAny _ _ (subscriptTail _ _ (Value.ref _) (Value.int _ _)) _ _ _); (k_dflt (refine item_tupleT (News.isTup (by k_asm) (by repeat (first | with_reducible assumption | refine memS ?_))) (by decide) (by decide) (by rfl) (by rfl) ?_)))) | (with_reducible ((with_reducible show wpAny _ _ (binaryOp .Pow (Value.int 2 _) (Value.int _ _)) _ _ _); (refine my_pow (by omega) (by omega) ?_); intro v' p' e'; cases p'; (try replace e' := pow32 e'); (try replace e' := pow64 e'))) | (with_reducible ((with_reducible show wpAny _ _ (binaryOp .Mod (Value.int _ _) (Value.int _ _)) _ _ _); (refine my_mod (by omega) ?_); intro r' e' r0' r1')) | (with_reducible ((with_reducible show wpAny _ _ (binaryOp .Mult (Value.int _ _) (Value.int _ _)) _ _ _); (refine my_mul (by omega) ?_))) | (with_reducible ((with_reducible show wpAny _ _ (binaryOp .FloorDiv (Value.int _ _) (Value.int _ _)) _ _ _); (refine my_fdiv (by omega) (by omega) ?_); intro q' e' b')) | (with_reducible ((with_reducible show wpAny _ _ (binaryOp .BitXor (Value.int _ _) (Value.int 1 _)) _ _ _); (refine my_xor ?_); intro x' e')) | (with_reducible ((with_reducible show wpAny _ _ (call (Value.ref 137) _) _ _ _); k_dflt (refine' record_call ?_ (by exact ⟨by k_asm, by k_asm, by k_asm, by k_asm, by k_asm, by first | exact rfl | (first | with_reducible assumption | assumption), by (simp only [depth_deeper, depth_in1, ktrTop]; omega), by (simp only [units_deeper, units_in1, ktrTop]; omega)⟩) (by repeat (first | with_reducible assumption | exact List.Mem.head _ | refine memS ?_)) ?_; · rfl); intro t' h' tk' F' N'; (try k_sweep))) | (with_reducible ((with_reducible show wpAny _ _ (call (Value.ref 130) _) _ _ _); k_dflt (refine low_call (by omega) (by exact ⟨by k_asm, by k_asm, by k_asm, by k_asm, by k_asm, by first | exact rfl | (first | with_reducible assumption | assumption), by (simp only [depth_deeper, depth_in1, ktrTop]; omega), by (simp only [units_deeper, units_in1, ktrTop]; omega)⟩) ?_); intro t' h' tk' F' N'; (try k_sweep))) | (with_reducible ((with_reducible show wpAny _ _ (call (Value.ref 151) _) _ _ _); k_dflt (refine back_call (by omega) (by omega) (by omega) (by omega) (by exact ⟨by k_asm, by k_asm, by k_asm, by k_asm, by k_asm, by first | exact rfl | (first | with_reducible assumption | assumption), by (simp only [depth_deeper, depth_in1, ktrTop]; omega), by (simp only [units_deeper, units_in1, ktrTop]; omega)⟩) ?_); intro V' P' D' uV' uP' c' h' tk' eV' eP0' eP1' F' N' l1'; (have l1' := allLt_of l1'); (simp only [AllLt] at l1'); (try k_sweep))) | (with_reducible ((with_reducible show wpAny _ _ (binaryOp .Add (Value.bytes _ _) (Value.bytes _ _)) _ _ _); ((first | (with_reducible refine my_badd ?_ ?_) | refine my_badd (a := [_, _, _, _]) ?_ ?_ | refine my_badd ?_ ?_); · (simp only [List.length_append, lowL_length, List.length_cons, List.length_nil]; omega)); intro t' tk')) | (with_reducible ((with_reducible show wpAny _ _ (subscriptTail _ (Expr.Slice none (some (Expr.Name ("cut" : Str) _)) none _) (Value.ref _) (Value.ref _)) _ _ _); k_dflt (refine' kmk_slice (by k_asm) (by k_asm) (by kmk_list) (by kmk_part) (by kmk_part) ?_ (by with_unfolding_all rfl) (by kmk_pure) (by (show _ ≤ 16777216; omega))); intro D' h' F' N' l1; (try k_lt l1); (try k_sweep))) | (with_reducible ((with_reducible show wpAny _ _ (compareOp .Eq (Value.ref _) (Value.ref _)) _ _ _); first | (first | refine eq_empty_yes (by k_asm) (by repeat (first | with_reducible assumption | exact List.Mem.head _ | refine memS ?_)) (by exact List.Mem.head _) (by ((try simp only [units_deeper, units_in1, ktrTop, cLine_is]); omega)) ?_ | refine eq_empty_no (by k_asm) (by repeat (first | with_reducible assumption | exact List.Mem.head _ | refine memS ?_)) (by exact List.Mem.head _) (by ((try simp only [units_deeper, units_in1, ktrTop, cLine_is]); omega)) ?_) | k_dflt (first | refine eq_empty_yes (by k_asm) (by repeat (first | with_reducible assumption | exact List.Mem.head _ | refine memS ?_)) (by exact List.Mem.head _) (by ((try simp only [units_deeper, units_in1, ktrTop, cLine_is]); omega)) ?_ | refine eq_empty_no (by k_asm) (by repeat (first | with_reducible assumption | exact List.Mem.head _ | refine memS ?_)) (by exact List.Mem.head _) (by ((try simp only [units_deeper, units_in1, ktrTop, cLine_is]); omega)) ?_))) | ((with_reducible show wpAny _ _ (call (Value.builtin "len") [Value.ref _]) _ _ _); k_dflt (refine my_lenL (by k_asm) (by repeat (first | with_reducible assumption | exact List.Mem.head _ | refine memS ?_)) (by omega) ?_); intro _ _))) | (k_unfold; (try dsimp only)) | (k_end; wrow_close) | walk1 | (dsimp only; walk1) | (leave1; (try dsimp only))))
    (refine ⟨_, _, rfl, ?_⟩; intro G k; refine Jn.un4 (k _ _ _ _ _ _ _ _ _ _ _ _ _ _ _ _ _ _ _ _ (by k_asm) (by k_asm) (by repeat (first | exact nm_nil | refine nm_cons (by with_unfolding_all rfl) ?_))) ?_)
    exact ⟨⟨by omega, by omega, by ((try dsimp only); first | with_reducible assumption | exact Cm.lp1 (by with_reducible assumption) | exact Cm.lp2 (by with_reducible assumption) | exact Cm.lp3 (by with_reducible assumption) | exact Cm.lp4 (by with_reducible assumption) | exact Cm.lp5 (by with_reducible assumption) | exact Cm.lp6 (by with_reducible assumption) | exact Cm.lp7 (by with_reducible assumption) | omega), by ((try dsimp only); first | with_reducible assumption | exact Cm.lp1 (by with_reducible assumption) | exact Cm.lp2 (by with_reducible assumption) | exact Cm.lp3 (by with_reducible assumption) | exact Cm.lp4 (by with_reducible assumption) | exact Cm.lp5 (by with_reducible assumption) | exact Cm.lp6 (by with_reducible assumption) | exact Cm.lp7 (by with_reducible assumption) | omega), by ((try dsimp only); first | with_reducible assumption | exact Cm.lp1 (by with_reducible assumption) | exact Cm.lp2 (by with_reducible assumption) | exact Cm.lp3 (by with_reducible assumption) | exact Cm.lp4 (by with_reducible assumption) | exact Cm.lp5 (by with_reducible assumption) | exact Cm.lp6 (by with_reducible assumption) | exact Cm.lp7 (by with_reducible assumption) | omega)⟩, by ((try dsimp only); first | with_reducible assumption | exact Cm.lp1 (by with_reducible assumption) | exact Cm.lp2 (by with_reducible assumption) | exact Cm.lp3 (by with_reducible assumption) | exact Cm.lp4 (by with_reducible assumption) | exact Cm.lp5 (by with_reducible assumption) | exact Cm.lp6 (by with_reducible assumption) | exact Cm.lp7 (by with_reducible assumption) | omega), by ((try dsimp only); first | with_reducible assumption | exact Cm.lp1 (by with_reducible assumption) | exact Cm.lp2 (by with_reducible assumption) | exact Cm.lp3 (by with_reducible assumption) | exact Cm.lp4 (by with_reducible assumption) | exact Cm.lp5 (by with_reducible assumption) | exact Cm.lp6 (by with_reducible assumption) | exact Cm.lp7 (by with_reducible assumption) | omega), by ((try dsimp only); first | with_reducible assumption | exact Cm.lp1 (by with_reducible assumption) | exact Cm.lp2 (by with_reducible assumption) | exact Cm.lp3 (by with_reducible assumption) | exact Cm.lp4 (by with_reducible assumption) | exact Cm.lp5 (by with_reducible assumption) | exact Cm.lp6 (by with_reducible assumption) | exact Cm.lp7 (by with_reducible assumption) | omega)⟩
  intro h8 tk8 hJ
  with_reducible refine hJ _ ?_
  clear hJ Jc
  rintro m8 fa la ra f0 f1 f2 f3 ln tf0 tf1 tf2 tf3 tf4 tf5 tln tbe cf cle cr F8 N8 M8 hf l2 l3 l4
  with_reducible refine fr_fold F8 M8 ?_
  clear F8
  intro mm F8
  clear M8 F7 N7
  have hf0 := hf.a4
  have nq0 : @Ne Nat (L1 + 1) (fa) := by omega
  have nq1 : @Ne Nat (L1 + 1) (la) := by omega
  have nq2 : @Ne Nat (L1 + 1 + 1) (la) := by omega
  have nq3 : @Ne Nat (fa) (la) := by omega
  have nq4 : @Ne Nat (L1 + 1) (ra) := by omega
  have nq5 : @Ne Nat (L1 + 1 + 1) (ra) := by omega
  have nq6 : @Ne Nat (fa) (ra) := by omega
  have nq7 : @Ne Nat (la) (ra) := by omega
  have nq8 : @Ne Nat (153) (fa) := by omega
  have nq9 : @Ne Nat (153) (la) := by omega
  have nq10 : @Ne Nat (153) (ra) := by omega
  have nq11 : @Ne Nat (153) (L1 + 1) := by omega
  have nq12 : @Ne Nat (153) (L1 + 1 + 1) := by omega
  have nq13 : @Ne Nat (L1 + 1) (L1 + 1 + 1) := by omega
  have p1 := hv.p1
  have S0 : Six news news ra la fa (L1 + 1 + 1) (L1 + 1) := six_first l1.2 l1.1 hn153 (by omega) (by omega) (by omega) (by omega) (by omega)
  let Jc : Heap → Prop := fun h' => ∀ G : Prop, (∀ (m' : Str → Option Value) (aR aL : Array Value) (cR cL : Nat) (nx : List (Addr × Obj)) (ps : List (Int × Int × List UInt8)) (rs : List Rec), Fr g L1 h' m' → News g L1 h' ((ra, listOf aR cR) :: (la, listOf aL cL) :: (fa, listOf #[.int f0 tf0, .int f1 tf1, .int f2 tf2, .int f3 tf3, .int ln tf4, .int (cd - ln) tf5] cf) :: (L1 + 1 + 1, oc') :: (L1 + 1, ol') :: (153, tabObj tb) :: nx) → NmAre m' [("c", .ref cc), ("bits", .int bi tbi), ("size", .int z tz), ("volume", .int V tV), ("place", .int P tP), ("end", .int e te), ("home", .int (e - 76 - ga) th), ("kind", .int ki tki), ("disk", .int di tdi), ("disks", .int ds tds),
      ("length", .int ln tln), ("begin", .int (cd - ln) tbe), ("facts", .ref fa), ("laid", .ref la), ("records", .ref ra)] → (Six nx news ra la fa (L1 + 1 + 1) (L1 + 1)) → (PiecesAre nx aL.toList ps) → (RecsAre nx aR.toList rs) → (LaidOk bi z e ga cd 1 ps rs) → G) → G
  with_reducible refine Jn.ckpt 1 Jc ?_ ?_
  · dsimp only [List.take, List.drop]
    k_fold
    (repeat' (first | ((with_reducible refine Blk.into ?_); (first | (with_reducible ((with_reducible show wpAny _ _ (subscriptTail _ _ (Value.ref _) (Value.int _ _)) _ _ _); (k_dflt (refine my_item (by k_asm) (by repeat (first | with_reducible assumption | refine memS ?_)) (by decide) (by decide) (by with_unfolding_all rfl) ?_ (by with_unfolding_all rfl))); (try simp only [Int.reduceToNat, List.getElem_toArray, List.getElem_cons_zero, List.getElem_cons_succ]))) | (with_reducible ((with_reducible show wpAny _ _ (subscriptTail _ _ (Value.ref _) (Value.int _ _)) _ _ _); (k_dflt (refine item_tupleT (News.isTup (by k_asm) (by repeat (first | with_reducible assumption | refine memS ?_))) (by decide) (by decide) (by rfl) (by rfl) ?_)))) | (with_reducible ((with_reducible show wpAny _ _ (binaryOp .Pow (Value.int 2 _) (Value.int _ _)) _ _ _); (refine my_pow (by omega) (by omega) ?_); intro v' p' e'; cases p'; (try replace e' := pow32 e'); (try replace e' := pow64 e'))) | (with_reducible ((with_reducible show wpAny _ _ (binaryOp .Mod (Value.int _ _) (Value.int _ _)) _ _ _); (refine my_mod (by omega) ?_); intro r' e' r0' r1')) | (with_reducible ((with_reducible show wpAny _ _ (binaryOp .Mult (Value.int _ _) (Value.int _ _)) _ _ _); (refine my_mul (by omega) ?_))) | (with_reducible ((with_reducible show wpAny _ _ (binaryOp .FloorDiv (Value.int _ _) (Value.int _ _)) _ _ _); (refine my_fdiv (by omega) (by omega) ?_); intro q' e' b')) | (with_reducible ((with_reducible show wpAny _ _ (binaryOp .BitXor (Value.int _ _) (Value.int 1 _)) _ _ _); (refine my_xor ?_); intro x' e')) | (with_reducible ((with_reducible show wpAny _ _ (call (Value.ref 137) _) _ _ _); k_dflt (refine' record_call ?_ (by exact ⟨by k_asm, by k_asm, by k_asm, by k_asm, by k_asm, by first | exact rfl | (first | with_reducible assumption | assumption), by (simp only [depth_deeper, depth_in1, ktrTop]; omega), by (simp only [units_deeper, units_in1, ktrTop]; omega)⟩) (by repeat (first | with_reducible assumption | exact List.Mem.head _ | refine memS ?_)) ?_; · rfl); intro t' h' tk' F' N'; (try k_sweep))) | (with_reducible ((with_reducible show wpAny _ _ (call (Value.ref 130) _) _ _ _); k_dflt (refine low_call (by omega) (by exact ⟨by k_asm, by k_asm, by k_asm, by k_asm, by k_asm, by first | exact rfl | (first | with_reducible assumption | assumption), by (simp only [depth_deeper, depth_in1, ktrTop]; omega), by (simp only [units_deeper, units_in1, ktrTop]; omega)⟩) ?_); intro t' h' tk' F' N'; (try k_sweep))) | (with_reducible ((with_reducible show wpAny _ _ (call (Value.ref 151) _) _ _ _); k_dflt (refine back_call (by omega) (by omega) (by omega) (by omega) (by exact ⟨by k_asm, by k_asm, by k_asm, by k_asm, by k_asm, by first | exact rfl | (first | with_reducible assumption | assumption), by (simp only [depth_deeper, depth_in1, ktrTop]; omega), by (simp only [units_deeper, units_in1, ktrTop]; omega)⟩) ?_); intro V' P' D' uV' uP' c' h' tk' eV' eP0' eP1' F' N' l1'; (have l1' := allLt_of l1'); (simp only [AllLt] at l1'); (try k_sweep))) | (with_reducible ((with_reducible show wpAny _ _ (binaryOp .Add (Value.bytes _ _) (Value.bytes _ _)) _ _ _); ((first | (with_reducible refine my_badd ?_ ?_) | refine my_badd (a := [_, _, _, _]) ?_ ?_ | refine my_badd ?_ ?_); · (simp only [List.length_append, lowL_length, List.length_cons, List.length_nil]; omega)); intro t' tk')) | (with_reducible ((with_reducible show wpAny _ _ (subscriptTail _ (Expr.Slice none (some (Expr.Name ("cut" : Str) _)) none _) (Value.ref _) (Value.ref _)) _ _ _); k_dflt (refine' kmk_slice (by k_asm) (by k_asm) (by kmk_list) (by kmk_part) (by kmk_part) ?_ (by with_unfolding_all rfl) (by kmk_pure) (by (show _ ≤ 16777216; omega))); intro D' h' F' N' l1; (try k_lt l1); (try k_sweep))) | (with_reducible ((with_reducible show wpAny _ _ (compareOp .Eq (Value.ref _) (Value.ref _)) _ _ _); first | (first | refine eq_empty_yes (by k_asm) (by repeat (first | with_reducible assumption | exact List.Mem.head _ | refine memS ?_)) (by exact List.Mem.head _) (by ((try simp only [units_deeper, units_in1, ktrTop, cLine_is]); omega)) ?_ | refine eq_empty_no (by k_asm) (by repeat (first | with_reducible assumption | exact List.Mem.head _ | refine memS ?_)) (by exact List.Mem.head _) (by ((try simp only [units_deeper, units_in1, ktrTop, cLine_is]); omega)) ?_) | k_dflt (first | refine eq_empty_yes (by k_asm) (by repeat (first | with_reducible assumption | exact List.Mem.head _ | refine memS ?_)) (by exact List.Mem.head _) (by ((try simp only [units_deeper, units_in1, ktrTop, cLine_is]); omega)) ?_ | refine eq_empty_no (by k_asm) (by repeat (first | with_reducible assumption | exact List.Mem.head _ | refine memS ?_)) (by exact List.Mem.head _) (by ((try simp only [units_deeper, units_in1, ktrTop, cLine_is]); omega)) ?_))) | ((with_reducible show wpAny _ _ (call (Value.builtin "len") [Value.ref _]) _ _ _); k_dflt (refine my_lenL (by k_asm) (by repeat (first | with_reducible assumption | exact List.Mem.head _ | refine memS ?_)) (by omega) ?_); intro _ _))) | (k_unfold; (try dsimp only)) | (k_end; wrow_close) | walk1 | (dsimp only; walk1) | (leave1; (try dsimp only))))
    · refine Blk.into ?_
      let Jc : Heap → Prop := fun h' => ∀ G : Prop, (∀ (m' : Str → Option Value) (ft lg : Int) (tft tlg : Tok), Fr g L1 h' m' → News g L1 h' ((ra, listOf #[] cr) :: (la, listOf #[] cle) :: (fa, listOf #[.int f0 tf0, .int f1 tf1, .int f2 tf2, .int f3 tf3, .int ln tf4, .int (cd - ln) tf5] cf) :: (L1 + 1 + 1, oc') :: (L1 + 1, ol') :: (153, tabObj tb) :: news) → NmAre m' [("c", .ref cc), ("bits", .int bi tbi), ("size", .int z tz), ("volume", .int V tV), ("place", .int P tP), ("end", .int e te), ("home", .int (e - 76 - ga) th), ("kind", .int ki tki), ("disk", .int di tdi), ("disks", .int ds tds),
      ("length", .int ln tln), ("begin", .int (cd - ln) tbe), ("facts", .ref fa), ("laid", .ref la), ("records", .ref ra), ("gap", .int ga tga), ("fault", .int ft tft), ("long", .int lg tlg)] → (0 ≤ lg) → (lg < 100) → G) → G
      with_reducible refine Jn.ckpt 2 Jc ?_ ?_
      · dsimp only [List.take, List.drop]
        k_fold
        (repeat' (first | ((with_reducible refine Blk.into ?_); (first | (with_reducible ((with_reducible show wpAny _ _ (subscriptTail _ _ (Value.ref _) (Value.int _ _)) _ _ _); (k_dflt (refine my_item (by k_asm) (by repeat (first | with_reducible assumption | refine memS ?_)) (by decide) (by decide) (by with_unfolding_all rfl) ?_ (by with_unfolding_all rfl))); (try simp only [Int.reduceToNat, List.getElem_toArray, List.getElem_cons_zero, List.getElem_cons_succ]))) | (with_reducible ((with_reducible show wpAny _ _ (subscriptTail _ _ (Value.ref _) (Value.int _ _)) _ _ _); (k_dflt (refine item_tupleT (News.isTup (by k_asm) (by repeat (first | with_reducible assumption | refine memS ?_))) (by decide) (by decide) (by rfl) (by rfl) ?_)))) | (with_reducible ((with_reducible show wpAny _ _ (binaryOp .Pow (Value.int 2 _) (Value.int _ _)) _ _ _); (refine my_pow (by omega) (by omega) ?_); intro v' p' e'; cases p'; (try replace e' := pow32 e'); (try replace e' := pow64 e'))) | (with_reducible ((with_reducible show wpAny _ _ (binaryOp .Mod (Value.int _ _) (Value.int _ _)) _ _ _); (refine my_mod (by omega) ?_); intro r' e' r0' r1')) | (with_reducible ((with_reducible show wpAny _ _ (binaryOp .Mult (Value.int _ _) (Value.int _ _)) _ _ _); (refine my_mul (by omega) ?_))) | (with_reducible ((with_reducible show wpAny _ _ (binaryOp .FloorDiv (Value.int _ _) (Value.int _ _)) _ _ _); (refine my_fdiv (by omega) (by omega) ?_); intro q' e' b')) | (with_reducible ((with_reducible show wpAny _ _ (binaryOp .BitXor (Value.int _ _) (Value.int 1 _)) _ _ _); (refine my_xor ?_); intro x' e')) | (with_reducible ((with_reducible show wpAny _ _ (call (Value.ref 137) _) _ _ _); k_dflt (refine' record_call ?_ (by exact ⟨by k_asm, by k_asm, by k_asm, by k_asm, by k_asm, by first | exact rfl | (first | with_reducible assumption | assumption), by (simp only [depth_deeper, depth_in1, ktrTop]; omega), by (simp only [units_deeper, units_in1, ktrTop]; omega)⟩) (by repeat (first | with_reducible assumption | exact List.Mem.head _ | refine memS ?_)) ?_; · rfl); intro t' h' tk' F' N'; (try k_sweep))) | (with_reducible ((with_reducible show wpAny _ _ (call (Value.ref 130) _) _ _ _); k_dflt (refine low_call (by omega) (by exact ⟨by k_asm, by k_asm, by k_asm, by k_asm, by k_asm, by first | exact rfl | (first | with_reducible assumption | assumption), by (simp only [depth_deeper, depth_in1, ktrTop]; omega), by (simp only [units_deeper, units_in1, ktrTop]; omega)⟩) ?_); intro t' h' tk' F' N'; (try k_sweep))) | (with_reducible ((with_reducible show wpAny _ _ (call (Value.ref 151) _) _ _ _); k_dflt (refine back_call (by omega) (by omega) (by omega) (by omega) (by exact ⟨by k_asm, by k_asm, by k_asm, by k_asm, by k_asm, by first | exact rfl | (first | with_reducible assumption | assumption), by (simp only [depth_deeper, depth_in1, ktrTop]; omega), by (simp only [units_deeper, units_in1, ktrTop]; omega)⟩) ?_); intro V' P' D' uV' uP' c' h' tk' eV' eP0' eP1' F' N' l1'; (have l1' := allLt_of l1'); (simp only [AllLt] at l1'); (try k_sweep))) | (with_reducible ((with_reducible show wpAny _ _ (binaryOp .Add (Value.bytes _ _) (Value.bytes _ _)) _ _ _); ((first | (with_reducible refine my_badd ?_ ?_) | refine my_badd (a := [_, _, _, _]) ?_ ?_ | refine my_badd ?_ ?_); · (simp only [List.length_append, lowL_length, List.length_cons, List.length_nil]; omega)); intro t' tk')) | (with_reducible ((with_reducible show wpAny _ _ (subscriptTail _ (Expr.Slice none (some (Expr.Name ("cut" : Str) _)) none _) (Value.ref _) (Value.ref _)) _ _ _); k_dflt (refine' kmk_slice (by k_asm) (by k_asm) (by kmk_list) (by kmk_part) (by kmk_part) ?_ (by with_unfolding_all rfl) (by kmk_pure) (by (show _ ≤ 16777216; omega))); intro D' h' F' N' l1; (try k_lt l1); (try k_sweep))) | (with_reducible ((with_reducible show wpAny _ _ (compareOp .Eq (Value.ref _) (Value.ref _)) _ _ _); first | (first | refine eq_empty_yes (by k_asm) (by repeat (first | with_reducible assumption | exact List.Mem.head _ | refine memS ?_)) (by exact List.Mem.head _) (by ((try simp only [units_deeper, units_in1, ktrTop, cLine_is]); omega)) ?_ | refine eq_empty_no (by k_asm) (by repeat (first | with_reducible assumption | exact List.Mem.head _ | refine memS ?_)) (by exact List.Mem.head _) (by ((try simp only [units_deeper, units_in1, ktrTop, cLine_is]); omega)) ?_) | k_dflt (first | refine eq_empty_yes (by k_asm) (by repeat (first | with_reducible assumption | exact List.Mem.head _ | refine memS ?_)) (by exact List.Mem.head _) (by ((try simp only [units_deeper, units_in1, ktrTop, cLine_is]); omega)) ?_ | refine eq_empty_no (by k_asm) (by repeat (first | with_reducible assumption | exact List.Mem.head _ | refine memS ?_)) (by exact List.Mem.head _) (by ((try simp only [units_deeper, units_in1, ktrTop, cLine_is]); omega)) ?_))) | ((with_reducible show wpAny _ _ (call (Value.builtin "len") [Value.ref _]) _ _ _); k_dflt (refine my_lenL (by k_asm) (by repeat (first | with_reducible assumption | exact List.Mem.head _ | refine memS ?_)) (by omega) ?_); intro _ _))) | (k_unfold; (try dsimp only)) | (k_end; wrow_close) | walk1 | (dsimp only; walk1) | (leave1; (try dsimp only))))
        all_goals (refine ⟨_, _, rfl, ?_⟩; intro G k; refine Jn.un2 (k _ _ _ _ _ (by k_asm) (by k_asm) (by repeat (first | exact nm_nil | refine nm_cons (by with_unfolding_all rfl) ?_))) ?_)
        all_goals (and_intros <;> omega)
      intro h9 tk9 hJ
      with_reducible refine hJ _ ?_
      clear hJ Jc
      rintro m9 ft lg tft tlg F9 N9 M9 lg0 lg1
      with_reducible refine fr_fold F9 M9 ?_
      clear F9
      intro mm F9
      clear M9 F8 N8
      let Jc : Heap → Prop := fun h' => ∀ G : Prop, (∀ (m' : Str → Option Value) (ma : Addr) (b5 : Int) (u0 u1 u2 u3 u4 u5 : Tok) (cm : Nat), Fr g L1 h' m' → News g L1 h' ((ma, listOf #[.int f0 u0, .int f1 u1, .int f2 u2, .int f3 u3, .int ln u4, .int b5 u5] cm) :: (ra, listOf #[] cr) :: (la, listOf #[] cle) :: (fa, listOf #[.int f0 tf0, .int f1 tf1, .int f2 tf2, .int f3 tf3, .int ln tf4, .int (cd - ln) tf5] cf) :: (L1 + 1 + 1, oc') :: (L1 + 1, ol') :: (153, tabObj tb) :: news) → NmAre m' [("c", .ref cc), ("bits", .int bi tbi), ("size", .int z tz), ("volume", .int V tV), ("place", .int P tP), ("end", .int e te), ("home", .int (e - 76 - ga) th), ("kind", .int ki tki), ("disk", .int di tdi), ("disks", .int ds tds),
      ("length", .int ln tln), ("begin", .int (cd - ln) tbe), ("facts", .ref fa), ("laid", .ref la), ("records", .ref ra), ("gap", .int ga tga), ("fault", .int ft tft), ("long", .int lg tlg), ("mine", .ref ma)] → (0 ≤ b5) → (b5 < 2 ^ 64) → (@LT.lt Nat instLTNat ra ma) → G) → G
      with_reducible refine Jn.ckpt 1 Jc ?_ ?_
      · dsimp only [List.take, List.drop]
        k_fold
        (repeat' (first | ((with_reducible refine Blk.into ?_); (first | (with_reducible ((with_reducible show wpAny _ _ (subscriptTail _ _ (Value.ref _) (Value.int _ _)) _ _ _); (k_dflt (refine my_item (by k_asm) (by repeat (first | with_reducible assumption | refine memS ?_)) (by decide) (by decide) (by with_unfolding_all rfl) ?_ (by with_unfolding_all rfl))); (try simp only [Int.reduceToNat, List.getElem_toArray, List.getElem_cons_zero, List.getElem_cons_succ]))) | (with_reducible ((with_reducible show wpAny _ _ (subscriptTail _ _ (Value.ref _) (Value.int _ _)) _ _ _); (k_dflt (refine item_tupleT (News.isTup (by k_asm) (by repeat (first | with_reducible assumption | refine memS ?_))) (by decide) (by decide) (by rfl) (by rfl) ?_)))) | (with_reducible ((with_reducible show wpAny _ _ (binaryOp .Pow (Value.int 2 _) (Value.int _ _)) _ _ _); (refine my_pow (by omega) (by omega) ?_); intro v' p' e'; cases p'; (try replace e' := pow32 e'); (try replace e' := pow64 e'))) | (with_reducible ((with_reducible show wpAny _ _ (binaryOp .Mod (Value.int _ _) (Value.int _ _)) _ _ _); (refine my_mod (by omega) ?_); intro r' e' r0' r1')) | (with_reducible ((with_reducible show wpAny _ _ (binaryOp .Mult (Value.int _ _) (Value.int _ _)) _ _ _); (refine my_mul (by omega) ?_))) | (with_reducible ((with_reducible show wpAny _ _ (binaryOp .FloorDiv (Value.int _ _) (Value.int _ _)) _ _ _); (refine my_fdiv (by omega) (by omega) ?_); intro q' e' b')) | (with_reducible ((with_reducible show wpAny _ _ (binaryOp .BitXor (Value.int _ _) (Value.int 1 _)) _ _ _); (refine my_xor ?_); intro x' e')) | (with_reducible ((with_reducible show wpAny _ _ (call (Value.ref 137) _) _ _ _); k_dflt (refine' record_call ?_ (by exact ⟨by k_asm, by k_asm, by k_asm, by k_asm, by k_asm, by first | exact rfl | (first | with_reducible assumption | assumption), by (simp only [depth_deeper, depth_in1, ktrTop]; omega), by (simp only [units_deeper, units_in1, ktrTop]; omega)⟩) (by repeat (first | with_reducible assumption | exact List.Mem.head _ | refine memS ?_)) ?_; · rfl); intro t' h' tk' F' N'; (try k_sweep))) | (with_reducible ((with_reducible show wpAny _ _ (call (Value.ref 130) _) _ _ _); k_dflt (refine low_call (by omega) (by exact ⟨by k_asm, by k_asm, by k_asm, by k_asm, by k_asm, by first | exact rfl | (first | with_reducible assumption | assumption), by (simp only [depth_deeper, depth_in1, ktrTop]; omega), by (simp only [units_deeper, units_in1, ktrTop]; omega)⟩) ?_); intro t' h' tk' F' N'; (try k_sweep))) | (with_reducible ((with_reducible show wpAny _ _ (call (Value.ref 151) _) _ _ _); k_dflt (refine back_call (by omega) (by omega) (by omega) (by omega) (by exact ⟨by k_asm, by k_asm, by k_asm, by k_asm, by k_asm, by first | exact rfl | (first | with_reducible assumption | assumption), by (simp only [depth_deeper, depth_in1, ktrTop]; omega), by (simp only [units_deeper, units_in1, ktrTop]; omega)⟩) ?_); intro V' P' D' uV' uP' c' h' tk' eV' eP0' eP1' F' N' l1'; (have l1' := allLt_of l1'); (simp only [AllLt] at l1'); (try k_sweep))) | (with_reducible ((with_reducible show wpAny _ _ (binaryOp .Add (Value.bytes _ _) (Value.bytes _ _)) _ _ _); ((first | (with_reducible refine my_badd ?_ ?_) | refine my_badd (a := [_, _, _, _]) ?_ ?_ | refine my_badd ?_ ?_); · (simp only [List.length_append, lowL_length, List.length_cons, List.length_nil]; omega)); intro t' tk')) | (with_reducible ((with_reducible show wpAny _ _ (subscriptTail _ (Expr.Slice none (some (Expr.Name ("cut" : Str) _)) none _) (Value.ref _) (Value.ref _)) _ _ _); k_dflt (refine' kmk_slice (by k_asm) (by k_asm) (by kmk_list) (by kmk_part) (by kmk_part) ?_ (by with_unfolding_all rfl) (by kmk_pure) (by (show _ ≤ 16777216; omega))); intro D' h' F' N' l1; (try k_lt l1); (try k_sweep))) | (with_reducible ((with_reducible show wpAny _ _ (compareOp .Eq (Value.ref _) (Value.ref _)) _ _ _); first | (first | refine eq_empty_yes (by k_asm) (by repeat (first | with_reducible assumption | exact List.Mem.head _ | refine memS ?_)) (by exact List.Mem.head _) (by ((try simp only [units_deeper, units_in1, ktrTop, cLine_is]); omega)) ?_ | refine eq_empty_no (by k_asm) (by repeat (first | with_reducible assumption | exact List.Mem.head _ | refine memS ?_)) (by exact List.Mem.head _) (by ((try simp only [units_deeper, units_in1, ktrTop, cLine_is]); omega)) ?_) | k_dflt (first | refine eq_empty_yes (by k_asm) (by repeat (first | with_reducible assumption | exact List.Mem.head _ | refine memS ?_)) (by exact List.Mem.head _) (by ((try simp only [units_deeper, units_in1, ktrTop, cLine_is]); omega)) ?_ | refine eq_empty_no (by k_asm) (by repeat (first | with_reducible assumption | exact List.Mem.head _ | refine memS ?_)) (by exact List.Mem.head _) (by ((try simp only [units_deeper, units_in1, ktrTop, cLine_is]); omega)) ?_))) | ((with_reducible show wpAny _ _ (call (Value.builtin "len") [Value.ref _]) _ _ _); k_dflt (refine my_lenL (by k_asm) (by repeat (first | with_reducible assumption | exact List.Mem.head _ | refine memS ?_)) (by omega) ?_); intro _ _))) | (k_unfold; (try dsimp only)) | (k_end; wrow_close) | walk1 | (dsimp only; walk1) | (leave1; (try dsimp only))))
        all_goals (refine ⟨_, _, rfl, ?_⟩; intro G k; refine Jn.un3 (k _ _ _ _ _ _ _ _ _ _ (by k_asm) (by ((rename News _ _ _ _ => dN); refine cb_drop dN ?_; (repeat (refine List.forall_mem_cons.mpr ⟨by repeat (first | with_reducible assumption | exact List.Mem.head _ | refine memS ?_), ?_⟩)); (first | exact offL_sub | repeat (first | exact fun _ h => h | with_reducible assumption | refine subT ?_)))) (by repeat (first | exact nm_nil | refine nm_cons (by with_unfolding_all rfl) ?_))) ?_)
        all_goals (and_intros <;> omega)
      intro h10 tk10 hJ
      with_reducible refine hJ _ ?_
      clear hJ Jc
      rintro m10 ma b5 u0 u1 u2 u3 u4 u5 cm F10 N10 M10 b50 b51 l5
      with_reducible refine fr_fold F10 M10 ?_
      clear F10
      intro mm F10
      clear M10 F9 N9
      dsimp only [List.take, List.drop]
      (repeat' (first | ((with_reducible refine Blk.into ?_); (first | (with_reducible ((with_reducible show wpAny _ _ (subscriptTail _ _ (Value.ref _) (Value.int _ _)) _ _ _); (k_dflt (refine my_item (by k_asm) (by repeat (first | with_reducible assumption | refine memS ?_)) (by decide) (by decide) (by with_unfolding_all rfl) ?_ (by with_unfolding_all rfl))); (try simp only [Int.reduceToNat, List.getElem_toArray, List.getElem_cons_zero, List.getElem_cons_succ]))) | (with_reducible ((with_reducible show wpAny _ _ (subscriptTail _ _ (Value.ref _) (Value.int _ _)) _ _ _); (k_dflt (refine item_tupleT (News.isTup (by k_asm) (by repeat (first | with_reducible assumption | refine memS ?_))) (by decide) (by decide) (by rfl) (by rfl) ?_)))) | (with_reducible ((with_reducible show wpAny _ _ (binaryOp .Pow (Value.int 2 _) (Value.int _ _)) _ _ _); (refine my_pow (by omega) (by omega) ?_); intro v' p' e'; cases p'; (try replace e' := pow32 e'); (try replace e' := pow64 e'))) | (with_reducible ((with_reducible show wpAny _ _ (binaryOp .Mod (Value.int _ _) (Value.int _ _)) _ _ _); (refine my_mod (by omega) ?_); intro r' e' r0' r1')) | (with_reducible ((with_reducible show wpAny _ _ (binaryOp .Mult (Value.int _ _) (Value.int _ _)) _ _ _); (refine my_mul (by omega) ?_))) | (with_reducible ((with_reducible show wpAny _ _ (binaryOp .FloorDiv (Value.int _ _) (Value.int _ _)) _ _ _); (refine my_fdiv (by omega) (by omega) ?_); intro q' e' b')) | (with_reducible ((with_reducible show wpAny _ _ (binaryOp .BitXor (Value.int _ _) (Value.int 1 _)) _ _ _); (refine my_xor ?_); intro x' e')) | (with_reducible ((with_reducible show wpAny _ _ (call (Value.ref 137) _) _ _ _); k_dflt (refine' record_call ?_ (by exact ⟨by k_asm, by k_asm, by k_asm, by k_asm, by k_asm, by first | exact rfl | (first | with_reducible assumption | assumption), by (simp only [depth_deeper, depth_in1, ktrTop]; omega), by (simp only [units_deeper, units_in1, ktrTop]; omega)⟩) (by repeat (first | with_reducible assumption | exact List.Mem.head _ | refine memS ?_)) ?_; · rfl); intro t' h' tk' F' N'; (try k_sweep))) | (with_reducible ((with_reducible show wpAny _ _ (call (Value.ref 130) _) _ _ _); k_dflt (refine low_call (by omega) (by exact ⟨by k_asm, by k_asm, by k_asm, by k_asm, by k_asm, by first | exact rfl | (first | with_reducible assumption | assumption), by (simp only [depth_deeper, depth_in1, ktrTop]; omega), by (simp only [units_deeper, units_in1, ktrTop]; omega)⟩) ?_); intro t' h' tk' F' N'; (try k_sweep))) | (with_reducible ((with_reducible show wpAny _ _ (call (Value.ref 151) _) _ _ _); k_dflt (refine back_call (by omega) (by omega) (by omega) (by omega) (by exact ⟨by k_asm, by k_asm, by k_asm, by k_asm, by k_asm, by first | exact rfl | (first | with_reducible assumption | assumption), by (simp only [depth_deeper, depth_in1, ktrTop]; omega), by (simp only [units_deeper, units_in1, ktrTop]; omega)⟩) ?_); intro V' P' D' uV' uP' c' h' tk' eV' eP0' eP1' F' N' l1'; (have l1' := allLt_of l1'); (simp only [AllLt] at l1'); (try k_sweep))) | (with_reducible ((with_reducible show wpAny _ _ (binaryOp .Add (Value.bytes _ _) (Value.bytes _ _)) _ _ _); ((first | (with_reducible refine my_badd ?_ ?_) | refine my_badd (a := [_, _, _, _]) ?_ ?_ | refine my_badd ?_ ?_); · (simp only [List.length_append, lowL_length, List.length_cons, List.length_nil]; omega)); intro t' tk')) | (with_reducible ((with_reducible show wpAny _ _ (subscriptTail _ (Expr.Slice none (some (Expr.Name ("cut" : Str) _)) none _) (Value.ref _) (Value.ref _)) _ _ _); k_dflt (refine' kmk_slice (by k_asm) (by k_asm) (by kmk_list) (by kmk_part) (by kmk_part) ?_ (by with_unfolding_all rfl) (by kmk_pure) (by (show _ ≤ 16777216; omega))); intro D' h' F' N' l1; (try k_lt l1); (try k_sweep))) | (with_reducible ((with_reducible show wpAny _ _ (compareOp .Eq (Value.ref _) (Value.ref _)) _ _ _); first | (first | refine eq_empty_yes (by k_asm) (by repeat (first | with_reducible assumption | exact List.Mem.head _ | refine memS ?_)) (by exact List.Mem.head _) (by ((try simp only [units_deeper, units_in1, ktrTop, cLine_is]); omega)) ?_ | refine eq_empty_no (by k_asm) (by repeat (first | with_reducible assumption | exact List.Mem.head _ | refine memS ?_)) (by exact List.Mem.head _) (by ((try simp only [units_deeper, units_in1, ktrTop, cLine_is]); omega)) ?_) | k_dflt (first | refine eq_empty_yes (by k_asm) (by repeat (first | with_reducible assumption | exact List.Mem.head _ | refine memS ?_)) (by exact List.Mem.head _) (by ((try simp only [units_deeper, units_in1, ktrTop, cLine_is]); omega)) ?_ | refine eq_empty_no (by k_asm) (by repeat (first | with_reducible assumption | exact List.Mem.head _ | refine memS ?_)) (by exact List.Mem.head _) (by ((try simp only [units_deeper, units_in1, ktrTop, cLine_is]); omega)) ?_))) | ((with_reducible show wpAny _ _ (call (Value.builtin "len") [Value.ref _]) _ _ _); k_dflt (refine my_lenL (by k_asm) (by repeat (first | with_reducible assumption | exact List.Mem.head _ | refine memS ?_)) (by omega) ?_); intro _ _))) | (k_unfold; (try dsimp only)) | (k_end; wrow_close) | walk1 | (dsimp only; walk1) | (leave1; (try dsimp only))))
      · exfalso; omega
      · (refine ⟨_, _, rfl, ?_⟩; intro G k; refine Jn.un4 (k _ _ _ _ _ (sixL _ ra la fa (L1 + 1 + 1) (L1 + 1)) _ _ (by k_asm) (by ((rename News _ _ _ _ => dN); exact six_pack dN (by repeat (first | with_reducible assumption | exact List.Mem.head _ | refine memS ?_)) (by repeat (first | with_reducible assumption | exact List.Mem.head _ | refine memS ?_)) (by repeat (first | with_reducible assumption | exact List.Mem.head _ | refine memS ?_)) (by repeat (first | with_reducible assumption | exact List.Mem.head _ | refine memS ?_)) (by repeat (first | with_reducible assumption | exact List.Mem.head _ | refine memS ?_)) (by repeat (first | with_reducible assumption | exact List.Mem.head _ | refine memS ?_)))) (by repeat (first | exact nm_nil | refine nm_cons (by with_unfolding_all rfl) ?_))) ⟨sixL_six (by repeat (first | exact fun _ h => h | with_reducible assumption | refine subT ?_)) S0, by exact pieces_snoc pieces_nil (sixL_mem (by repeat (first | with_reducible assumption | exact List.Mem.head _ | refine memS ?_)) (by k_ne) (by k_ne) (by k_ne) (by k_ne) (by k_ne) (by k_ne)), recs_nil, by exact laid_bad hv he ⟨ga0, ga1⟩ (by omega) (by assumption) (by assumption) (by assumption)⟩)
      · (refine ⟨_, _, rfl, ?_⟩; intro G k; refine Jn.un4 (k _ _ _ _ _ (sixL _ ra la fa (L1 + 1 + 1) (L1 + 1)) _ _ (by k_asm) (by ((rename News _ _ _ _ => dN); exact six_pack dN (by repeat (first | with_reducible assumption | exact List.Mem.head _ | refine memS ?_)) (by repeat (first | with_reducible assumption | exact List.Mem.head _ | refine memS ?_)) (by repeat (first | with_reducible assumption | exact List.Mem.head _ | refine memS ?_)) (by repeat (first | with_reducible assumption | exact List.Mem.head _ | refine memS ?_)) (by repeat (first | with_reducible assumption | exact List.Mem.head _ | refine memS ?_)) (by repeat (first | with_reducible assumption | exact List.Mem.head _ | refine memS ?_)))) (by repeat (first | exact nm_nil | refine nm_cons (by with_unfolding_all rfl) ?_))) ⟨sixL_six (by repeat (first | exact fun _ h => h | with_reducible assumption | refine subT ?_)) S0, by exact pieces_snoc pieces_nil (sixL_mem (by repeat (first | with_reducible assumption | exact List.Mem.head _ | refine memS ?_)) (by k_ne) (by k_ne) (by k_ne) (by k_ne) (by k_ne) (by k_ne)), by exact recs_snoc recs_nil (sixL_mem (by repeat (first | with_reducible assumption | exact List.Mem.head _ | refine memS ?_)) (by k_ne) (by k_ne) (by k_ne) (by k_ne) (by k_ne) (by k_ne)) (sixL_mem (by repeat (first | with_reducible assumption | exact List.Mem.head _ | refine memS ?_)) (by k_ne) (by k_ne) (by k_ne) (by k_ne) (by k_ne) (by k_ne)), by exact laid_good hv he ⟨ga0, ga1⟩ (by omega) (by assumption) (by assumption) (by assumption) ⟨by omega, hf.a0, hf.a1, hf.a2, hf.a3, by omega, by omega⟩⟩)
      · exfalso; omega
    · (refine ⟨_, _, rfl, ?_⟩; intro G k; refine Jn.un4 (k _ _ _ _ _ _ _ _ (by k_asm) (by ((rename News _ _ _ _ => dN); refine cb_drop dN ?_; (repeat (refine List.forall_mem_cons.mpr ⟨by repeat (first | with_reducible assumption | exact List.Mem.head _ | refine memS ?_), ?_⟩)); (first | exact offL_sub | repeat (first | exact fun _ h => h | with_reducible assumption | refine subT ?_)))) (by repeat (first | exact nm_nil | refine nm_cons (by with_unfolding_all rfl) ?_))) ⟨S0, pieces_nil, recs_nil, laid_none⟩)
  intro h11 tk11 hJ
  with_reducible refine hJ _ ?_
  clear hJ Jc
  rintro m11 aR aL cR cL nx ps rs F11 N11 M11 S1 hp1 hr1 hl1
  with_reducible refine fr_fold F11 M11 ?_
  clear F11
  intro mm F11
  clear M11 F8 N8
  have S1' := six_trans S1
  have hna := S1.na
  have hnb := S1.nb
  have hnc := S1.nc
  have hnd := S1.nd
  have hne := S1.ne
  have hcc1 := S1.sub _ hcc
  have hs1 : aL.size ≤ 1 := by have := hp1.1; have := hl1.n1; simp at *; omega
  have hs2 : aR.size ≤ 1 := by have := hr1.1; have := hl1.n2; simp at *; omega
  let Jc : Heap → Prop := fun h' => ∀ G : Prop, (∀ (m' : Str → Option Value) (aR aL : Array Value) (cR cL : Nat) (nx : List (Addr × Obj)) (ps : List (Int × Int × List UInt8)) (rs : List Rec), Fr g L1 h' m' → News g L1 h' ((ra, listOf aR cR) :: (la, listOf aL cL) :: (fa, listOf #[.int f0 tf0, .int f1 tf1, .int f2 tf2, .int f3 tf3, .int ln tf4, .int (cd - ln) tf5] cf) :: (L1 + 1 + 1, oc') :: (L1 + 1, ol') :: (153, tabObj tb) :: nx) → NmAre m' [("c", .ref cc), ("bits", .int bi tbi), ("size", .int z tz), ("volume", .int V tV), ("place", .int P tP), ("end", .int e te), ("home", .int (e - 76 - ga) th), ("kind", .int ki tki), ("disk", .int di tdi), ("disks", .int ds tds),
      ("length", .int ln tln), ("begin", .int (cd - ln) tbe), ("facts", .ref fa), ("laid", .ref la), ("records", .ref ra)] → (Six nx news ra la fa (L1 + 1 + 1) (L1 + 1)) → (PiecesAre nx aL.toList ps) → (RecsAre nx aR.toList rs) → (LaidOk bi z e ga cd 2 ps rs) → G) → G
  with_reducible refine Jn.ckpt 1 Jc ?_ ?_
  · dsimp only [List.take, List.drop]
    k_fold
    (repeat' (first | ((with_reducible refine Blk.into ?_); (first | (with_reducible ((with_reducible show wpAny _ _ (subscriptTail _ _ (Value.ref _) (Value.int _ _)) _ _ _); (k_dflt (refine my_item (by k_asm) (by repeat (first | with_reducible assumption | refine memS ?_)) (by decide) (by decide) (by with_unfolding_all rfl) ?_ (by with_unfolding_all rfl))); (try simp only [Int.reduceToNat, List.getElem_toArray, List.getElem_cons_zero, List.getElem_cons_succ]))) | (with_reducible ((with_reducible show wpAny _ _ (subscriptTail _ _ (Value.ref _) (Value.int _ _)) _ _ _); (k_dflt (refine item_tupleT (News.isTup (by k_asm) (by repeat (first | with_reducible assumption | refine memS ?_))) (by decide) (by decide) (by rfl) (by rfl) ?_)))) | (with_reducible ((with_reducible show wpAny _ _ (binaryOp .Pow (Value.int 2 _) (Value.int _ _)) _ _ _); (refine my_pow (by omega) (by omega) ?_); intro v' p' e'; cases p'; (try replace e' := pow32 e'); (try replace e' := pow64 e'))) | (with_reducible ((with_reducible show wpAny _ _ (binaryOp .Mod (Value.int _ _) (Value.int _ _)) _ _ _); (refine my_mod (by omega) ?_); intro r' e' r0' r1')) | (with_reducible ((with_reducible show wpAny _ _ (binaryOp .Mult (Value.int _ _) (Value.int _ _)) _ _ _); (refine my_mul (by omega) ?_))) | (with_reducible ((with_reducible show wpAny _ _ (binaryOp .FloorDiv (Value.int _ _) (Value.int _ _)) _ _ _); (refine my_fdiv (by omega) (by omega) ?_); intro q' e' b')) | (with_reducible ((with_reducible show wpAny _ _ (binaryOp .BitXor (Value.int _ _) (Value.int 1 _)) _ _ _); (refine my_xor ?_); intro x' e')) | (with_reducible ((with_reducible show wpAny _ _ (call (Value.ref 137) _) _ _ _); k_dflt (refine' record_call ?_ (by exact ⟨by k_asm, by k_asm, by k_asm, by k_asm, by k_asm, by first | exact rfl | (first | with_reducible assumption | assumption), by (simp only [depth_deeper, depth_in1, ktrTop]; omega), by (simp only [units_deeper, units_in1, ktrTop]; omega)⟩) (by repeat (first | with_reducible assumption | exact List.Mem.head _ | refine memS ?_)) ?_; · rfl); intro t' h' tk' F' N'; (try k_sweep))) | (with_reducible ((with_reducible show wpAny _ _ (call (Value.ref 130) _) _ _ _); k_dflt (refine low_call (by omega) (by exact ⟨by k_asm, by k_asm, by k_asm, by k_asm, by k_asm, by first | exact rfl | (first | with_reducible assumption | assumption), by (simp only [depth_deeper, depth_in1, ktrTop]; omega), by (simp only [units_deeper, units_in1, ktrTop]; omega)⟩) ?_); intro t' h' tk' F' N'; (try k_sweep))) | (with_reducible ((with_reducible show wpAny _ _ (call (Value.ref 151) _) _ _ _); k_dflt (refine back_call (by omega) (by omega) (by omega) (by omega) (by exact ⟨by k_asm, by k_asm, by k_asm, by k_asm, by k_asm, by first | exact rfl | (first | with_reducible assumption | assumption), by (simp only [depth_deeper, depth_in1, ktrTop]; omega), by (simp only [units_deeper, units_in1, ktrTop]; omega)⟩) ?_); intro V' P' D' uV' uP' c' h' tk' eV' eP0' eP1' F' N' l1'; (have l1' := allLt_of l1'); (simp only [AllLt] at l1'); (try k_sweep))) | (with_reducible ((with_reducible show wpAny _ _ (binaryOp .Add (Value.bytes _ _) (Value.bytes _ _)) _ _ _); ((first | (with_reducible refine my_badd ?_ ?_) | refine my_badd (a := [_, _, _, _]) ?_ ?_ | refine my_badd ?_ ?_); · (simp only [List.length_append, lowL_length, List.length_cons, List.length_nil]; omega)); intro t' tk')) | (with_reducible ((with_reducible show wpAny _ _ (subscriptTail _ (Expr.Slice none (some (Expr.Name ("cut" : Str) _)) none _) (Value.ref _) (Value.ref _)) _ _ _); k_dflt (refine' kmk_slice (by k_asm) (by k_asm) (by kmk_list) (by kmk_part) (by kmk_part) ?_ (by with_unfolding_all rfl) (by kmk_pure) (by (show _ ≤ 16777216; omega))); intro D' h' F' N' l1; (try k_lt l1); (try k_sweep))) | (with_reducible ((with_reducible show wpAny _ _ (compareOp .Eq (Value.ref _) (Value.ref _)) _ _ _); first | (first | refine eq_empty_yes (by k_asm) (by repeat (first | with_reducible assumption | exact List.Mem.head _ | refine memS ?_)) (by exact List.Mem.head _) (by ((try simp only [units_deeper, units_in1, ktrTop, cLine_is]); omega)) ?_ | refine eq_empty_no (by k_asm) (by repeat (first | with_reducible assumption | exact List.Mem.head _ | refine memS ?_)) (by exact List.Mem.head _) (by ((try simp only [units_deeper, units_in1, ktrTop, cLine_is]); omega)) ?_) | k_dflt (first | refine eq_empty_yes (by k_asm) (by repeat (first | with_reducible assumption | exact List.Mem.head _ | refine memS ?_)) (by exact List.Mem.head _) (by ((try simp only [units_deeper, units_in1, ktrTop, cLine_is]); omega)) ?_ | refine eq_empty_no (by k_asm) (by repeat (first | with_reducible assumption | exact List.Mem.head _ | refine memS ?_)) (by exact List.Mem.head _) (by ((try simp only [units_deeper, units_in1, ktrTop, cLine_is]); omega)) ?_))) | ((with_reducible show wpAny _ _ (call (Value.builtin "len") [Value.ref _]) _ _ _); k_dflt (refine my_lenL (by k_asm) (by repeat (first | with_reducible assumption | exact List.Mem.head _ | refine memS ?_)) (by omega) ?_); intro _ _))) | (k_unfold; (try dsimp only)) | (k_end; wrow_close) | walk1 | (dsimp only; walk1) | (leave1; (try dsimp only))))
    · (refine ⟨_, _, rfl, ?_⟩; intro G k; refine Jn.un4 (k _ _ _ _ _ (sixL _ ra la fa (L1 + 1 + 1) (L1 + 1)) _ _ (by k_asm) (by ((rename News _ _ _ _ => dN); exact six_pack dN (by repeat (first | with_reducible assumption | exact List.Mem.head _ | refine memS ?_)) (by repeat (first | with_reducible assumption | exact List.Mem.head _ | refine memS ?_)) (by repeat (first | with_reducible assumption | exact List.Mem.head _ | refine memS ?_)) (by repeat (first | with_reducible assumption | exact List.Mem.head _ | refine memS ?_)) (by repeat (first | with_reducible assumption | exact List.Mem.head _ | refine memS ?_)) (by repeat (first | with_reducible assumption | exact List.Mem.head _ | refine memS ?_)))) (by repeat (first | exact nm_nil | refine nm_cons (by with_unfolding_all rfl) ?_))) ⟨six_sub (sixL_six (by repeat (first | exact fun _ h => h | with_reducible assumption | refine subT ?_)) S1') S1.sub, by exact pieces_push hp1 (sixL_six (by repeat (first | exact fun _ h => h | with_reducible assumption | refine subT ?_)) S1').sub (sixL_mem (by repeat (first | with_reducible assumption | exact List.Mem.head _ | refine memS ?_)) (by k_ne) (by k_ne) (by k_ne) (by k_ne) (by k_ne) (by k_ne)), by exact recs_push hr1 (sixL_six (by repeat (first | exact fun _ h => h | with_reducible assumption | refine subT ?_)) S1').sub (sixL_mem (by repeat (first | with_reducible assumption | exact List.Mem.head _ | refine memS ?_)) (by k_ne) (by k_ne) (by k_ne) (by k_ne) (by k_ne) (by k_ne)) (sixL_mem (by repeat (first | with_reducible assumption | exact List.Mem.head _ | refine memS ?_)) (by k_ne) (by k_ne) (by k_ne) (by k_ne) (by k_ne) (by k_ne)), by exact laid_two hl1 g0 ga0 cd0 (by omega) ⟨by omega, hf.a1, hf.a0, hf.a3, hf.a2, by omega, by omega⟩⟩)
    all_goals (refine ⟨_, _, rfl, ?_⟩; intro G k; exact Jn.un4 (k _ _ _ _ _ _ _ _ (by k_asm) (by k_asm) (by repeat (first | exact nm_nil | refine nm_cons (by with_unfolding_all rfl) ?_))) ⟨S1, hp1, hr1, laid_up hl1⟩)
  intro h12 tk12 hJ
  with_reducible refine hJ _ ?_
  clear hJ Jc
  rintro m12 aR aL cR cL nx ps rs F12 N12 M12 S1 hp1 hr1 hl1
  with_reducible refine fr_fold F12 M12 ?_
  clear F12
  intro mm F12
  clear M12 F11 N11
  have S1' := six_trans S1
  have hna := S1.na
  have hnb := S1.nb
  have hnc := S1.nc
  have hnd := S1.nd
  have hne := S1.ne
  have hcc1 := S1.sub _ hcc
  have hs1 : aL.size ≤ 2 := by have := hp1.1; have := hl1.n1; simp at *; omega
  have hs2 : aR.size ≤ 2 := by have := hr1.1; have := hl1.n2; simp at *; omega
  let Jc : Heap → Prop := fun h' => ∀ G : Prop, (∀ (m' : Str → Option Value) (aL : Array Value) (cL : Nat) (nx : List (Addr × Obj)) (ps : List (Int × Int × List UInt8)), Fr g L1 h' m' → News g L1 h' ((ra, listOf aR cR) :: (la, listOf aL cL) :: (fa, listOf #[.int f0 tf0, .int f1 tf1, .int f2 tf2, .int f3 tf3, .int ln tf4, .int (cd - ln) tf5] cf) :: (L1 + 1 + 1, oc') :: (L1 + 1, ol') :: (153, tabObj tb) :: nx) → NmAre m' [("c", .ref cc), ("bits", .int bi tbi), ("size", .int z tz), ("volume", .int V tV), ("place", .int P tP), ("end", .int e te), ("home", .int (e - 76 - ga) th), ("kind", .int ki tki), ("disk", .int di tdi), ("disks", .int ds tds),
      ("length", .int ln tln), ("begin", .int (cd - ln) tbe), ("facts", .ref fa), ("laid", .ref la), ("records", .ref ra)] → (Six nx news ra la fa (L1 + 1 + 1) (L1 + 1)) → (PiecesAre nx aL.toList ps) → (RecsAre nx aR.toList rs) → (LaidOk bi z e ga cd 3 ps rs) → ((20 ≤ e → tapeB z ps (e - 20) 20 = locL [80, 75, 6, if ki = 0 then 5 else 7] di cd ds)) → G) → G
  with_reducible refine Jn.ckpt 1 Jc ?_ ?_
  · dsimp only [List.take, List.drop]
    k_fold
    (repeat' (first | ((with_reducible refine Blk.into ?_); (first | (with_reducible ((with_reducible show wpAny _ _ (subscriptTail _ _ (Value.ref _) (Value.int _ _)) _ _ _); (k_dflt (refine my_item (by k_asm) (by repeat (first | with_reducible assumption | refine memS ?_)) (by decide) (by decide) (by with_unfolding_all rfl) ?_ (by with_unfolding_all rfl))); (try simp only [Int.reduceToNat, List.getElem_toArray, List.getElem_cons_zero, List.getElem_cons_succ]))) | (with_reducible ((with_reducible show wpAny _ _ (subscriptTail _ _ (Value.ref _) (Value.int _ _)) _ _ _); (k_dflt (refine item_tupleT (News.isTup (by k_asm) (by repeat (first | with_reducible assumption | refine memS ?_))) (by decide) (by decide) (by rfl) (by rfl) ?_)))) | (with_reducible ((with_reducible show wpAny _ _ (binaryOp .Pow (Value.int 2 _) (Value.int _ _)) _ _ _); (refine my_pow (by omega) (by omega) ?_); intro v' p' e'; cases p'; (try replace e' := pow32 e'); (try replace e' := pow64 e'))) | (with_reducible ((with_reducible show wpAny _ _ (binaryOp .Mod (Value.int _ _) (Value.int _ _)) _ _ _); (refine my_mod (by omega) ?_); intro r' e' r0' r1')) | (with_reducible ((with_reducible show wpAny _ _ (binaryOp .Mult (Value.int _ _) (Value.int _ _)) _ _ _); (refine my_mul (by omega) ?_))) | (with_reducible ((with_reducible show wpAny _ _ (binaryOp .FloorDiv (Value.int _ _) (Value.int _ _)) _ _ _); (refine my_fdiv (by omega) (by omega) ?_); intro q' e' b')) | (with_reducible ((with_reducible show wpAny _ _ (binaryOp .BitXor (Value.int _ _) (Value.int 1 _)) _ _ _); (refine my_xor ?_); intro x' e')) | (with_reducible ((with_reducible show wpAny _ _ (call (Value.ref 137) _) _ _ _); k_dflt (refine' record_call ?_ (by exact ⟨by k_asm, by k_asm, by k_asm, by k_asm, by k_asm, by first | exact rfl | (first | with_reducible assumption | assumption), by (simp only [depth_deeper, depth_in1, ktrTop]; omega), by (simp only [units_deeper, units_in1, ktrTop]; omega)⟩) (by repeat (first | with_reducible assumption | exact List.Mem.head _ | refine memS ?_)) ?_; · rfl); intro t' h' tk' F' N'; (try k_sweep))) | (with_reducible ((with_reducible show wpAny _ _ (call (Value.ref 130) _) _ _ _); k_dflt (refine low_call (by omega) (by exact ⟨by k_asm, by k_asm, by k_asm, by k_asm, by k_asm, by first | exact rfl | (first | with_reducible assumption | assumption), by (simp only [depth_deeper, depth_in1, ktrTop]; omega), by (simp only [units_deeper, units_in1, ktrTop]; omega)⟩) ?_); intro t' h' tk' F' N'; (try k_sweep))) | (with_reducible ((with_reducible show wpAny _ _ (call (Value.ref 151) _) _ _ _); k_dflt (refine back_call (by omega) (by omega) (by omega) (by omega) (by exact ⟨by k_asm, by k_asm, by k_asm, by k_asm, by k_asm, by first | exact rfl | (first | with_reducible assumption | assumption), by (simp only [depth_deeper, depth_in1, ktrTop]; omega), by (simp only [units_deeper, units_in1, ktrTop]; omega)⟩) ?_); intro V' P' D' uV' uP' c' h' tk' eV' eP0' eP1' F' N' l1'; (have l1' := allLt_of l1'); (simp only [AllLt] at l1'); (try k_sweep))) | (with_reducible ((with_reducible show wpAny _ _ (binaryOp .Add (Value.bytes _ _) (Value.bytes _ _)) _ _ _); ((first | (with_reducible refine my_badd ?_ ?_) | refine my_badd (a := [_, _, _, _]) ?_ ?_ | refine my_badd ?_ ?_); · (simp only [List.length_append, lowL_length, List.length_cons, List.length_nil]; omega)); intro t' tk')) | (with_reducible ((with_reducible show wpAny _ _ (subscriptTail _ (Expr.Slice none (some (Expr.Name ("cut" : Str) _)) none _) (Value.ref _) (Value.ref _)) _ _ _); k_dflt (refine' kmk_slice (by k_asm) (by k_asm) (by kmk_list) (by kmk_part) (by kmk_part) ?_ (by with_unfolding_all rfl) (by kmk_pure) (by (show _ ≤ 16777216; omega))); intro D' h' F' N' l1; (try k_lt l1); (try k_sweep))) | (with_reducible ((with_reducible show wpAny _ _ (compareOp .Eq (Value.ref _) (Value.ref _)) _ _ _); first | (first | refine eq_empty_yes (by k_asm) (by repeat (first | with_reducible assumption | exact List.Mem.head _ | refine memS ?_)) (by exact List.Mem.head _) (by ((try simp only [units_deeper, units_in1, ktrTop, cLine_is]); omega)) ?_ | refine eq_empty_no (by k_asm) (by repeat (first | with_reducible assumption | exact List.Mem.head _ | refine memS ?_)) (by exact List.Mem.head _) (by ((try simp only [units_deeper, units_in1, ktrTop, cLine_is]); omega)) ?_) | k_dflt (first | refine eq_empty_yes (by k_asm) (by repeat (first | with_reducible assumption | exact List.Mem.head _ | refine memS ?_)) (by exact List.Mem.head _) (by ((try simp only [units_deeper, units_in1, ktrTop, cLine_is]); omega)) ?_ | refine eq_empty_no (by k_asm) (by repeat (first | with_reducible assumption | exact List.Mem.head _ | refine memS ?_)) (by exact List.Mem.head _) (by ((try simp only [units_deeper, units_in1, ktrTop, cLine_is]); omega)) ?_))) | ((with_reducible show wpAny _ _ (call (Value.builtin "len") [Value.ref _]) _ _ _); k_dflt (refine my_lenL (by k_asm) (by repeat (first | with_reducible assumption | exact List.Mem.head _ | refine memS ?_)) (by omega) ?_); intro _ _))) | (k_unfold; (try dsimp only)) | (k_end; wrow_close) | walk1 | (dsimp only; walk1) | (leave1; (try dsimp only))))
    · (refine ⟨_, _, rfl, ?_⟩; intro G k; refine Jn.un5 (k _ _ _ (sixL _ ra la fa (L1 + 1 + 1) (L1 + 1)) _ (by k_asm) (by ((rename News _ _ _ _ => dN); exact six_pack dN (by repeat (first | with_reducible assumption | exact List.Mem.head _ | refine memS ?_)) (by repeat (first | with_reducible assumption | exact List.Mem.head _ | refine memS ?_)) (by repeat (first | with_reducible assumption | exact List.Mem.head _ | refine memS ?_)) (by repeat (first | with_reducible assumption | exact List.Mem.head _ | refine memS ?_)) (by repeat (first | with_reducible assumption | exact List.Mem.head _ | refine memS ?_)) (by repeat (first | with_reducible assumption | exact List.Mem.head _ | refine memS ?_)))) (by repeat (first | exact nm_nil | refine nm_cons (by with_unfolding_all rfl) ?_))) ⟨six_sub (sixL_six (by repeat (first | exact fun _ h => h | with_reducible assumption | refine subT ?_)) S1') S1.sub, by exact pieces_push hp1 (sixL_six (by repeat (first | exact fun _ h => h | with_reducible assumption | refine subT ?_)) S1').sub (sixL_mem (by repeat (first | with_reducible assumption | exact List.Mem.head _ | refine memS ?_)) (by k_ne) (by k_ne) (by k_ne) (by k_ne) (by k_ne) (by k_ne)), recs_mono hr1 (sixL_six (by repeat (first | exact fun _ h => h | with_reducible assumption | refine subT ?_)) S1').sub, ?_, ?_⟩)
      · exact (laid_loc (sg := [80, 75, 6, 5]) (by rfl) hl1 hv he (by assumption) (by assumption) (by assumption) (by assumption)).1
      · intro _
        rw [if_pos (by assumption)]
        exact (laid_loc (sg := [80, 75, 6, 5]) (by rfl) hl1 hv he (by assumption) (by assumption) (by assumption) (by assumption)).2
    · (refine ⟨_, _, rfl, ?_⟩; intro G k; refine Jn.un5 (k _ _ _ (sixL _ ra la fa (L1 + 1 + 1) (L1 + 1)) _ (by k_asm) (by ((rename News _ _ _ _ => dN); exact six_pack dN (by repeat (first | with_reducible assumption | exact List.Mem.head _ | refine memS ?_)) (by repeat (first | with_reducible assumption | exact List.Mem.head _ | refine memS ?_)) (by repeat (first | with_reducible assumption | exact List.Mem.head _ | refine memS ?_)) (by repeat (first | with_reducible assumption | exact List.Mem.head _ | refine memS ?_)) (by repeat (first | with_reducible assumption | exact List.Mem.head _ | refine memS ?_)) (by repeat (first | with_reducible assumption | exact List.Mem.head _ | refine memS ?_)))) (by repeat (first | exact nm_nil | refine nm_cons (by with_unfolding_all rfl) ?_))) ⟨six_sub (sixL_six (by repeat (first | exact fun _ h => h | with_reducible assumption | refine subT ?_)) S1') S1.sub, by exact pieces_push hp1 (sixL_six (by repeat (first | exact fun _ h => h | with_reducible assumption | refine subT ?_)) S1').sub (sixL_mem (by repeat (first | with_reducible assumption | exact List.Mem.head _ | refine memS ?_)) (by k_ne) (by k_ne) (by k_ne) (by k_ne) (by k_ne) (by k_ne)), recs_mono hr1 (sixL_six (by repeat (first | exact fun _ h => h | with_reducible assumption | refine subT ?_)) S1').sub, ?_, ?_⟩)
      · exact (laid_loc (sg := [80, 75, 6, 7]) (by rfl) hl1 hv he (by assumption) (by assumption) (by assumption) (by assumption)).1
      · intro _
        rw [if_neg (by assumption)]
        exact (laid_loc (sg := [80, 75, 6, 7]) (by rfl) hl1 hv he (by assumption) (by assumption) (by assumption) (by assumption)).2
    · (refine ⟨_, _, rfl, ?_⟩; intro G k; exact Jn.un5 (k _ _ _ _ _ (by k_asm) (by k_asm) (by repeat (first | exact nm_nil | refine nm_cons (by with_unfolding_all rfl) ?_))) ⟨S1, hp1, hr1, laid_noloc hl1, fun h => absurd h (by assumption)⟩)
  intro h13 tk13 hJ
  with_reducible refine hJ _ ?_
  clear hJ Jc
  rintro m13 aL cL nx ps F13 N13 M13 S1 hp1 hr1 hl1 hlo
  with_reducible refine fr_fold F13 M13 ?_
  clear F13
  intro mm F13
  clear M13 F12 N12 hna hnb hnc hnd hne hcc1 S1' hs1
  have S1' := six_trans S1
  have hna := S1.na
  have hnb := S1.nb
  have hnc := S1.nc
  have hnd := S1.nd
  have hne := S1.ne
  have hcc1 := S1.sub _ hcc
  have h153 := S1.n0
  let Jc : Heap → Prop := fun h' => ∀ G : Prop, (∀ (m' : Str → Option Value) (rw bf rd : Addr) (aQ : Array Value) (cq cw cb : Nat) (b8 : Array UInt8) (x0 x1 x2 x3 x4 x5 x6 x8 tsy : Tok) (ny : List (Addr × Obj)), Fr g L1 h' m' → News g L1 h' ((rd, listOf aQ cq) :: (L1 + 1 + 1, oc') :: (L1 + 1, ol') :: (153, tabObj tb) :: ny) → NmAre m' [("c", .ref cc), ("bits", .int bi tbi), ("size", .int z tz), ("volume", .int V tV), ("place", .int P tP), ("end", .int e te), ("kind", .int ki tki), ("disk", .int di tdi), ("disks", .int ds tds), ("laid", .ref la), ("records", .ref ra), ("row", .ref rw), ("before", .ref bf), ("says", .str (Str.ofString "row") tsy), ("due", .ref bf), ("reads", .ref rd)] → (Off ny nx [rd, L1 + 1 + 1, L1 + 1, 153]) → ((rw, listOf (rowA #[80, 75, 5, 6] b8 65535 65535 65535 65535 4294967295 4294967295 c9 e x0 x1 x2 x3 x4 x5 x6 t9 x8 te) cw) ∈ ny) → ((bf, listOf (rowA #[80, 75, 5, 6] b8 65535 65535 65535 65535 4294967295 4294967295 c9 e x0 x1 x2 x3 x4 x5 x6 t9 x8 te) cb) ∈ ny) → ((ra, listOf aR cR) ∈ ny) → ((la, listOf aL cL) ∈ ny) → (AskedAre z ny aQ.toList (if e < 20 then [] else [(e - 20, 20)])) → (@LT.lt Nat instLTNat ra rw) → (@LT.lt Nat instLTNat rw bf) → (@LT.lt Nat instLTNat bf rd) → G) → G
  with_reducible refine Jn.ckpt 5 Jc ?_ ?_
  · dsimp only [List.take, List.drop]
    k_fold
    (repeat' (first | ((with_reducible refine Blk.into ?_); (first | (with_reducible ((with_reducible show wpAny _ _ (subscriptTail _ _ (Value.ref _) (Value.int _ _)) _ _ _); (k_dflt (refine my_item (by k_asm) (by repeat (first | with_reducible assumption | refine memS ?_)) (by decide) (by decide) (by with_unfolding_all rfl) ?_ (by with_unfolding_all rfl))); (try simp only [Int.reduceToNat, List.getElem_toArray, List.getElem_cons_zero, List.getElem_cons_succ]))) | (with_reducible ((with_reducible show wpAny _ _ (subscriptTail _ _ (Value.ref _) (Value.int _ _)) _ _ _); (k_dflt (refine item_tupleT (News.isTup (by k_asm) (by repeat (first | with_reducible assumption | refine memS ?_))) (by decide) (by decide) (by rfl) (by rfl) ?_)))) | (with_reducible ((with_reducible show wpAny _ _ (binaryOp .Pow (Value.int 2 _) (Value.int _ _)) _ _ _); (refine my_pow (by omega) (by omega) ?_); intro v' p' e'; cases p'; (try replace e' := pow32 e'); (try replace e' := pow64 e'))) | (with_reducible ((with_reducible show wpAny _ _ (binaryOp .Mod (Value.int _ _) (Value.int _ _)) _ _ _); (refine my_mod (by omega) ?_); intro r' e' r0' r1')) | (with_reducible ((with_reducible show wpAny _ _ (binaryOp .Mult (Value.int _ _) (Value.int _ _)) _ _ _); (refine my_mul (by omega) ?_))) | (with_reducible ((with_reducible show wpAny _ _ (binaryOp .FloorDiv (Value.int _ _) (Value.int _ _)) _ _ _); (refine my_fdiv (by omega) (by omega) ?_); intro q' e' b')) | (with_reducible ((with_reducible show wpAny _ _ (binaryOp .BitXor (Value.int _ _) (Value.int 1 _)) _ _ _); (refine my_xor ?_); intro x' e')) | (with_reducible ((with_reducible show wpAny _ _ (call (Value.ref 137) _) _ _ _); k_dflt (refine' record_call ?_ (by exact ⟨by k_asm, by k_asm, by k_asm, by k_asm, by k_asm, by first | exact rfl | (first | with_reducible assumption | assumption), by (simp only [depth_deeper, depth_in1, ktrTop]; omega), by (simp only [units_deeper, units_in1, ktrTop]; omega)⟩) (by repeat (first | with_reducible assumption | exact List.Mem.head _ | refine memS ?_)) ?_; · rfl); intro t' h' tk' F' N'; (try k_sweep))) | (with_reducible ((with_reducible show wpAny _ _ (call (Value.ref 130) _) _ _ _); k_dflt (refine low_call (by omega) (by exact ⟨by k_asm, by k_asm, by k_asm, by k_asm, by k_asm, by first | exact rfl | (first | with_reducible assumption | assumption), by (simp only [depth_deeper, depth_in1, ktrTop]; omega), by (simp only [units_deeper, units_in1, ktrTop]; omega)⟩) ?_); intro t' h' tk' F' N'; (try k_sweep))) | (with_reducible ((with_reducible show wpAny _ _ (call (Value.ref 151) _) _ _ _); k_dflt (refine back_call (by omega) (by omega) (by omega) (by omega) (by exact ⟨by k_asm, by k_asm, by k_asm, by k_asm, by k_asm, by first | exact rfl | (first | with_reducible assumption | assumption), by (simp only [depth_deeper, depth_in1, ktrTop]; omega), by (simp only [units_deeper, units_in1, ktrTop]; omega)⟩) ?_); intro V' P' D' uV' uP' c' h' tk' eV' eP0' eP1' F' N' l1'; (have l1' := allLt_of l1'); (simp only [AllLt] at l1'); (try k_sweep))) | (with_reducible ((with_reducible show wpAny _ _ (binaryOp .Add (Value.bytes _ _) (Value.bytes _ _)) _ _ _); ((first | (with_reducible refine my_badd ?_ ?_) | refine my_badd (a := [_, _, _, _]) ?_ ?_ | refine my_badd ?_ ?_); · (simp only [List.length_append, lowL_length, List.length_cons, List.length_nil]; omega)); intro t' tk')) | (with_reducible ((with_reducible show wpAny _ _ (subscriptTail _ (Expr.Slice none (some (Expr.Name ("cut" : Str) _)) none _) (Value.ref _) (Value.ref _)) _ _ _); k_dflt (refine' kmk_slice (by k_asm) (by k_asm) (by kmk_list) (by kmk_part) (by kmk_part) ?_ (by with_unfolding_all rfl) (by kmk_pure) (by (show _ ≤ 16777216; omega))); intro D' h' F' N' l1; (try k_lt l1); (try k_sweep))) | (with_reducible ((with_reducible show wpAny _ _ (compareOp .Eq (Value.ref _) (Value.ref _)) _ _ _); first | (first | refine eq_empty_yes (by k_asm) (by repeat (first | with_reducible assumption | exact List.Mem.head _ | refine memS ?_)) (by exact List.Mem.head _) (by ((try simp only [units_deeper, units_in1, ktrTop, cLine_is]); omega)) ?_ | refine eq_empty_no (by k_asm) (by repeat (first | with_reducible assumption | exact List.Mem.head _ | refine memS ?_)) (by exact List.Mem.head _) (by ((try simp only [units_deeper, units_in1, ktrTop, cLine_is]); omega)) ?_) | k_dflt (first | refine eq_empty_yes (by k_asm) (by repeat (first | with_reducible assumption | exact List.Mem.head _ | refine memS ?_)) (by exact List.Mem.head _) (by ((try simp only [units_deeper, units_in1, ktrTop, cLine_is]); omega)) ?_ | refine eq_empty_no (by k_asm) (by repeat (first | with_reducible assumption | exact List.Mem.head _ | refine memS ?_)) (by exact List.Mem.head _) (by ((try simp only [units_deeper, units_in1, ktrTop, cLine_is]); omega)) ?_))) | ((with_reducible show wpAny _ _ (call (Value.builtin "len") [Value.ref _]) _ _ _); k_dflt (refine my_lenL (by k_asm) (by repeat (first | with_reducible assumption | exact List.Mem.head _ | refine memS ?_)) (by omega) ?_); intro _ _))) | (k_unfold; (try dsimp only)) | (k_end; wrow_close) | walk1 | (dsimp only; walk1) | (leave1; (try dsimp only))))
    all_goals (refine ⟨_, _, rfl, ?_⟩; intro G k; refine Jn.un9 (k _ _ _ _ _ _ _ _ _ _ _ _ _ _ _ _ _ _ (offL _ [_, L1 + 1 + 1, L1 + 1, 153]) (by k_asm) (by ((rename News _ _ _ _ => dN); refine cb_drop dN ?_; (repeat (refine List.forall_mem_cons.mpr ⟨by repeat (first | with_reducible assumption | exact List.Mem.head _ | refine memS ?_), ?_⟩)); (first | exact offL_sub | repeat (first | exact fun _ h => h | with_reducible assumption | refine subT ?_)))) (by repeat (first | exact nm_nil | refine nm_cons (by with_unfolding_all rfl) ?_))) ⟨offL_off (by repeat (first | exact fun _ h => h | with_reducible assumption | refine subT ?_)) (by ((repeat (refine ine_cons (by first | with_reducible assumption | ((rename @LT.lt Nat _ _ _ ∧ _ => hh); (repeat (replace hh := hh.2)); exact allLt_ne hh (Nat.le_refl _))) ?_)); exact ine_nil)), by exact offL_mem (by repeat (first | with_reducible assumption | exact List.Mem.head _ | refine memS ?_)) (by ((repeat (refine i1_cons (by ((try dsimp only); first | with_reducible assumption | (symm; with_reducible assumption) | exact Cm.nl1 (by with_reducible assumption) | exact Cm.ng1 (by with_reducible assumption) | exact Cm.nl2 (by with_reducible assumption) | exact Cm.ng2 (by with_reducible assumption) | exact Cm.nl3 (by with_reducible assumption) | exact Cm.ng3 (by with_reducible assumption) | exact Cm.nl4 (by with_reducible assumption) | exact Cm.ng4 (by with_reducible assumption) | exact Cm.nl5 (by with_reducible assumption) | exact Cm.ng5 (by with_reducible assumption) | exact Cm.nl6 (by with_reducible assumption) | exact Cm.ng6 (by with_reducible assumption) | exact Cm.nl7 (by with_reducible assumption) | exact Cm.ng7 (by with_reducible assumption) | exact Cm.nn1 (by with_reducible assumption) | exact Cm.nm1 (by with_reducible assumption) | exact Cm.nn2 (by with_reducible assumption) | exact Cm.nm2 (by with_reducible assumption) | exact Cm.nn3 (by with_reducible assumption) | exact Cm.nm3 (by with_reducible assumption) | exact Cm.nn4 (by with_reducible assumption) | exact Cm.nm4 (by with_reducible assumption) | exact Cm.nn5 (by with_reducible assumption) | exact Cm.nm5 (by with_reducible assumption) | omega)) ?_)); exact i1_nil)), by exact offL_mem (by repeat (first | with_reducible assumption | exact List.Mem.head _ | refine memS ?_)) (by ((repeat (refine i1_cons (by ((try dsimp only); first | with_reducible assumption | (symm; with_reducible assumption) | exact Cm.nl1 (by with_reducible assumption) | exact Cm.ng1 (by with_reducible assumption) | exact Cm.nl2 (by with_reducible assumption) | exact Cm.ng2 (by with_reducible assumption) | exact Cm.nl3 (by with_reducible assumption) | exact Cm.ng3 (by with_reducible assumption) | exact Cm.nl4 (by with_reducible assumption) | exact Cm.ng4 (by with_reducible assumption) | exact Cm.nl5 (by with_reducible assumption) | exact Cm.ng5 (by with_reducible assumption) | exact Cm.nl6 (by with_reducible assumption) | exact Cm.ng6 (by with_reducible assumption) | exact Cm.nl7 (by with_reducible assumption) | exact Cm.ng7 (by with_reducible assumption) | exact Cm.nn1 (by with_reducible assumption) | exact Cm.nm1 (by with_reducible assumption) | exact Cm.nn2 (by with_reducible assumption) | exact Cm.nm2 (by with_reducible assumption) | exact Cm.nn3 (by with_reducible assumption) | exact Cm.nm3 (by with_reducible assumption) | exact Cm.nn4 (by with_reducible assumption) | exact Cm.nm4 (by with_reducible assumption) | exact Cm.nn5 (by with_reducible assumption) | exact Cm.nm5 (by with_reducible assumption) | omega)) ?_)); exact i1_nil)), by exact offL_mem (by repeat (first | with_reducible assumption | exact List.Mem.head _ | refine memS ?_)) (by ((repeat (refine i1_cons (by ((try dsimp only); first | with_reducible assumption | (symm; with_reducible assumption) | exact Cm.nl1 (by with_reducible assumption) | exact Cm.ng1 (by with_reducible assumption) | exact Cm.nl2 (by with_reducible assumption) | exact Cm.ng2 (by with_reducible assumption) | exact Cm.nl3 (by with_reducible assumption) | exact Cm.ng3 (by with_reducible assumption) | exact Cm.nl4 (by with_reducible assumption) | exact Cm.ng4 (by with_reducible assumption) | exact Cm.nl5 (by with_reducible assumption) | exact Cm.ng5 (by with_reducible assumption) | exact Cm.nl6 (by with_reducible assumption) | exact Cm.ng6 (by with_reducible assumption) | exact Cm.nl7 (by with_reducible assumption) | exact Cm.ng7 (by with_reducible assumption) | exact Cm.nn1 (by with_reducible assumption) | exact Cm.nm1 (by with_reducible assumption) | exact Cm.nn2 (by with_reducible assumption) | exact Cm.nm2 (by with_reducible assumption) | exact Cm.nn3 (by with_reducible assumption) | exact Cm.nm3 (by with_reducible assumption) | exact Cm.nn4 (by with_reducible assumption) | exact Cm.nm4 (by with_reducible assumption) | exact Cm.nn5 (by with_reducible assumption) | exact Cm.nm5 (by with_reducible assumption) | omega)) ?_)); exact i1_nil)), by exact offL_mem (by repeat (first | with_reducible assumption | exact List.Mem.head _ | refine memS ?_)) (by ((repeat (refine i1_cons (by ((try dsimp only); first | with_reducible assumption | (symm; with_reducible assumption) | exact Cm.nl1 (by with_reducible assumption) | exact Cm.ng1 (by with_reducible assumption) | exact Cm.nl2 (by with_reducible assumption) | exact Cm.ng2 (by with_reducible assumption) | exact Cm.nl3 (by with_reducible assumption) | exact Cm.ng3 (by with_reducible assumption) | exact Cm.nl4 (by with_reducible assumption) | exact Cm.ng4 (by with_reducible assumption) | exact Cm.nl5 (by with_reducible assumption) | exact Cm.ng5 (by with_reducible assumption) | exact Cm.nl6 (by with_reducible assumption) | exact Cm.ng6 (by with_reducible assumption) | exact Cm.nl7 (by with_reducible assumption) | exact Cm.ng7 (by with_reducible assumption) | exact Cm.nn1 (by with_reducible assumption) | exact Cm.nm1 (by with_reducible assumption) | exact Cm.nn2 (by with_reducible assumption) | exact Cm.nm2 (by with_reducible assumption) | exact Cm.nn3 (by with_reducible assumption) | exact Cm.nm3 (by with_reducible assumption) | exact Cm.nn4 (by with_reducible assumption) | exact Cm.nm4 (by with_reducible assumption) | exact Cm.nn5 (by with_reducible assumption) | exact Cm.nm5 (by with_reducible assumption) | omega)) ?_)); exact i1_nil)), ?_, ?_⟩)
    · rw [if_pos (by assumption)]
      exact True.intro
    · exact ⟨by ((try dsimp only); first | with_reducible assumption | exact Cm.lp1 (by with_reducible assumption) | exact Cm.lp2 (by with_reducible assumption) | exact Cm.lp3 (by with_reducible assumption) | exact Cm.lp4 (by with_reducible assumption) | exact Cm.lp5 (by with_reducible assumption) | exact Cm.lp6 (by with_reducible assumption) | exact Cm.lp7 (by with_reducible assumption) | omega), by ((try dsimp only); first | with_reducible assumption | exact Cm.lp1 (by with_reducible assumption) | exact Cm.lp2 (by with_reducible assumption) | exact Cm.lp3 (by with_reducible assumption) | exact Cm.lp4 (by with_reducible assumption) | exact Cm.lp5 (by with_reducible assumption) | exact Cm.lp6 (by with_reducible assumption) | exact Cm.lp7 (by with_reducible assumption) | omega), by ((try dsimp only); first | with_reducible assumption | exact Cm.lp1 (by with_reducible assumption) | exact Cm.lp2 (by with_reducible assumption) | exact Cm.lp3 (by with_reducible assumption) | exact Cm.lp4 (by with_reducible assumption) | exact Cm.lp5 (by with_reducible assumption) | exact Cm.lp6 (by with_reducible assumption) | exact Cm.lp7 (by with_reducible assumption) | omega)⟩
    · rw [if_neg (by assumption)]
      exact asked_snoc (vs := []) (rq := []) (by exact offL_mem (by repeat (first | with_reducible assumption | exact List.Mem.head _ | refine memS ?_)) (by ((repeat (refine i1_cons (by ((try dsimp only); first | with_reducible assumption | (symm; with_reducible assumption) | exact Cm.nl1 (by with_reducible assumption) | exact Cm.ng1 (by with_reducible assumption) | exact Cm.nl2 (by with_reducible assumption) | exact Cm.ng2 (by with_reducible assumption) | exact Cm.nl3 (by with_reducible assumption) | exact Cm.ng3 (by with_reducible assumption) | exact Cm.nl4 (by with_reducible assumption) | exact Cm.ng4 (by with_reducible assumption) | exact Cm.nl5 (by with_reducible assumption) | exact Cm.ng5 (by with_reducible assumption) | exact Cm.nl6 (by with_reducible assumption) | exact Cm.ng6 (by with_reducible assumption) | exact Cm.nl7 (by with_reducible assumption) | exact Cm.ng7 (by with_reducible assumption) | exact Cm.nn1 (by with_reducible assumption) | exact Cm.nm1 (by with_reducible assumption) | exact Cm.nn2 (by with_reducible assumption) | exact Cm.nm2 (by with_reducible assumption) | exact Cm.nn3 (by with_reducible assumption) | exact Cm.nm3 (by with_reducible assumption) | exact Cm.nn4 (by with_reducible assumption) | exact Cm.nm4 (by with_reducible assumption) | exact Cm.nn5 (by with_reducible assumption) | exact Cm.nm5 (by with_reducible assumption) | omega)) ?_)); exact i1_nil))) (by have := he.ee; omega) (by assumption) (by assumption) True.intro
    · exact ⟨by ((try dsimp only); first | with_reducible assumption | exact Cm.lp1 (by with_reducible assumption) | exact Cm.lp2 (by with_reducible assumption) | exact Cm.lp3 (by with_reducible assumption) | exact Cm.lp4 (by with_reducible assumption) | exact Cm.lp5 (by with_reducible assumption) | exact Cm.lp6 (by with_reducible assumption) | exact Cm.lp7 (by with_reducible assumption) | omega), by ((try dsimp only); first | with_reducible assumption | exact Cm.lp1 (by with_reducible assumption) | exact Cm.lp2 (by with_reducible assumption) | exact Cm.lp3 (by with_reducible assumption) | exact Cm.lp4 (by with_reducible assumption) | exact Cm.lp5 (by with_reducible assumption) | exact Cm.lp6 (by with_reducible assumption) | exact Cm.lp7 (by with_reducible assumption) | omega), by ((try dsimp only); first | with_reducible assumption | exact Cm.lp1 (by with_reducible assumption) | exact Cm.lp2 (by with_reducible assumption) | exact Cm.lp3 (by with_reducible assumption) | exact Cm.lp4 (by with_reducible assumption) | exact Cm.lp5 (by with_reducible assumption) | exact Cm.lp6 (by with_reducible assumption) | exact Cm.lp7 (by with_reducible assumption) | omega)⟩
  intro h14 tk14 hJ
  with_reducible refine hJ _ ?_
  clear hJ Jc
  rintro m14 rw bf rd aQ cq cw cb b8 x0 x1 x2 x3 x4 x5 x6 x8 tsy ny F14 N14 M14 S2 hrw hbf hra hla hq1 l5 l6 l7
  with_reducible refine fr_fold F14 M14 ?_
  clear F14
  intro mm F14
  clear M14 F13 N13 hna hnb hnc hnd hne hcc1 S1'
  have hna := off_one S2 (a := rd) (by simp)
  have hnd := off_one S2 (a := L1 + 1 + 1) (by simp)
  have hne := off_one S2 (a := L1 + 1) (by simp)
  have h153 := off_one S2 (a := 153) (by simp)
  have hcc1 := S2.sub _ (S1.sub _ hcc)
  have nr0 : @Ne Nat 153 rd := by omega
  have nr1 : @Ne Nat (L1 + 1) rd := by omega
  have nr2 : @Ne Nat (L1 + 1 + 1) rd := by omega
  have nr3 : @Ne Nat 153 bf := by omega
  have hp2 := piecesAre_mono hp1 S2.sub
  have hr2 := recs_mono hr1 S2.sub
  have hql : aQ.size ≤ 1 := by
    have := asked_len hq1
    rw [Array.length_toList] at this
    by_cases hx : e < 20
    · rw [if_pos hx] at this; simp only [List.length_nil] at this; omega
    · rw [if_neg hx] at this; simp only [List.length_cons, List.length_nil] at this; omega
  let Jc : Heap → Prop := fun h' => ∀ G : Prop, (∀ (m' : Str → Option Value) (du : Addr) (aQ dA : Array Value) (cq cdu : Nat) (sy : Str) (tsy : Tok) (rq : List (Int × Int)) (nz : List (Addr × Obj)), Fr g L1 h' m' → News g L1 h' ((rd, listOf aQ cq) :: (L1 + 1 + 1, oc') :: (L1 + 1, ol') :: (153, tabObj tb) :: nz) → NmAre m' [("c", .ref cc), ("bits", .int bi tbi), ("size", .int z tz), ("end", .int e te), ("laid", .ref la), ("row", .ref rw), ("before", .ref bf), ("says", .str sy tsy), ("due", .ref du), ("reads", .ref rd)] → (Off nz ny [rd, L1 + 1 + 1, L1 + 1, 153]) → ((du, listOf dA cdu) ∈ nz) → (AskedAre z nz aQ.toList rq) → (rq.length ≤ 3) → (@LT.lt Nat instLTNat rw du) → (Said (endsE (tapeB z ps) 9 e) sy rq (rowA #[80, 75, 5, 6] b8 65535 65535 65535 65535 4294967295 4294967295 c9 e x0 x1 x2 x3 x4 x5 x6 t9 x8 te) dA c9 b8) → G) → G
  with_reducible refine Jn.ckpt 1 Jc ?_ ?_
  · dsimp only [List.take, List.drop]
    k_fold
    (repeat' (first | ((with_reducible refine Blk.into ?_); (first | (with_reducible ((with_reducible show wpAny _ _ (subscriptTail _ _ (Value.ref _) (Value.int _ _)) _ _ _); (k_dflt (refine my_item (by k_asm) (by repeat (first | with_reducible assumption | refine memS ?_)) (by decide) (by decide) (by with_unfolding_all rfl) ?_ (by with_unfolding_all rfl))); (try simp only [Int.reduceToNat, List.getElem_toArray, List.getElem_cons_zero, List.getElem_cons_succ]))) | (with_reducible ((with_reducible show wpAny _ _ (subscriptTail _ _ (Value.ref _) (Value.int _ _)) _ _ _); (k_dflt (refine item_tupleT (News.isTup (by k_asm) (by repeat (first | with_reducible assumption | refine memS ?_))) (by decide) (by decide) (by rfl) (by rfl) ?_)))) | (with_reducible ((with_reducible show wpAny _ _ (binaryOp .Pow (Value.int 2 _) (Value.int _ _)) _ _ _); (refine my_pow (by omega) (by omega) ?_); intro v' p' e'; cases p'; (try replace e' := pow32 e'); (try replace e' := pow64 e'))) | (with_reducible ((with_reducible show wpAny _ _ (binaryOp .Mod (Value.int _ _) (Value.int _ _)) _ _ _); (refine my_mod (by omega) ?_); intro r' e' r0' r1')) | (with_reducible ((with_reducible show wpAny _ _ (binaryOp .Mult (Value.int _ _) (Value.int _ _)) _ _ _); (refine my_mul (by omega) ?_))) | (with_reducible ((with_reducible show wpAny _ _ (binaryOp .FloorDiv (Value.int _ _) (Value.int _ _)) _ _ _); (refine my_fdiv (by omega) (by omega) ?_); intro q' e' b')) | (with_reducible ((with_reducible show wpAny _ _ (binaryOp .BitXor (Value.int _ _) (Value.int 1 _)) _ _ _); (refine my_xor ?_); intro x' e')) | (with_reducible ((with_reducible show wpAny _ _ (call (Value.ref 137) _) _ _ _); k_dflt (refine' record_call ?_ (by exact ⟨by k_asm, by k_asm, by k_asm, by k_asm, by k_asm, by first | exact rfl | (first | with_reducible assumption | assumption), by (simp only [depth_deeper, depth_in1, ktrTop]; omega), by (simp only [units_deeper, units_in1, ktrTop]; omega)⟩) (by repeat (first | with_reducible assumption | exact List.Mem.head _ | refine memS ?_)) ?_; · rfl); intro t' h' tk' F' N'; (try k_sweep))) | (with_reducible ((with_reducible show wpAny _ _ (call (Value.ref 130) _) _ _ _); k_dflt (refine low_call (by omega) (by exact ⟨by k_asm, by k_asm, by k_asm, by k_asm, by k_asm, by first | exact rfl | (first | with_reducible assumption | assumption), by (simp only [depth_deeper, depth_in1, ktrTop]; omega), by (simp only [units_deeper, units_in1, ktrTop]; omega)⟩) ?_); intro t' h' tk' F' N'; (try k_sweep))) | (with_reducible ((with_reducible show wpAny _ _ (call (Value.ref 151) _) _ _ _); k_dflt (refine back_call (by omega) (by omega) (by omega) (by omega) (by exact ⟨by k_asm, by k_asm, by k_asm, by k_asm, by k_asm, by first | exact rfl | (first | with_reducible assumption | assumption), by (simp only [depth_deeper, depth_in1, ktrTop]; omega), by (simp only [units_deeper, units_in1, ktrTop]; omega)⟩) ?_); intro V' P' D' uV' uP' c' h' tk' eV' eP0' eP1' F' N' l1'; (have l1' := allLt_of l1'); (simp only [AllLt] at l1'); (try k_sweep))) | (with_reducible ((with_reducible show wpAny _ _ (binaryOp .Add (Value.bytes _ _) (Value.bytes _ _)) _ _ _); ((first | (with_reducible refine my_badd ?_ ?_) | refine my_badd (a := [_, _, _, _]) ?_ ?_ | refine my_badd ?_ ?_); · (simp only [List.length_append, lowL_length, List.length_cons, List.length_nil]; omega)); intro t' tk')) | (with_reducible ((with_reducible show wpAny _ _ (subscriptTail _ (Expr.Slice none (some (Expr.Name ("cut" : Str) _)) none _) (Value.ref _) (Value.ref _)) _ _ _); k_dflt (refine' kmk_slice (by k_asm) (by k_asm) (by kmk_list) (by kmk_part) (by kmk_part) ?_ (by with_unfolding_all rfl) (by kmk_pure) (by (show _ ≤ 16777216; omega))); intro D' h' F' N' l1; (try k_lt l1); (try k_sweep))) | (with_reducible ((with_reducible show wpAny _ _ (compareOp .Eq (Value.ref _) (Value.ref _)) _ _ _); first | (first | refine eq_empty_yes (by k_asm) (by repeat (first | with_reducible assumption | exact List.Mem.head _ | refine memS ?_)) (by exact List.Mem.head _) (by ((try simp only [units_deeper, units_in1, ktrTop, cLine_is]); omega)) ?_ | refine eq_empty_no (by k_asm) (by repeat (first | with_reducible assumption | exact List.Mem.head _ | refine memS ?_)) (by exact List.Mem.head _) (by ((try simp only [units_deeper, units_in1, ktrTop, cLine_is]); omega)) ?_) | k_dflt (first | refine eq_empty_yes (by k_asm) (by repeat (first | with_reducible assumption | exact List.Mem.head _ | refine memS ?_)) (by exact List.Mem.head _) (by ((try simp only [units_deeper, units_in1, ktrTop, cLine_is]); omega)) ?_ | refine eq_empty_no (by k_asm) (by repeat (first | with_reducible assumption | exact List.Mem.head _ | refine memS ?_)) (by exact List.Mem.head _) (by ((try simp only [units_deeper, units_in1, ktrTop, cLine_is]); omega)) ?_))) | ((with_reducible show wpAny _ _ (call (Value.builtin "len") [Value.ref _]) _ _ _); k_dflt (refine my_lenL (by k_asm) (by repeat (first | with_reducible assumption | exact List.Mem.head _ | refine memS ?_)) (by omega) ?_); intro _ _))) | (k_unfold; (try dsimp only)) | (k_end; wrow_close) | walk1 | (dsimp only; walk1) | (leave1; (try dsimp only))))
    · refine Blk.into ?_
      have hE : 20 ≤ e := by assumption
      have hlo' := hlo hE
      rw [if_neg (by assumption)] at hlo'
      rw [if_neg (by omega)] at hq1
      have hcl : cd ≤ e - 76 := by assumption
      have hd0 : di = 0 := by assumption
      have hd2 : ds < 2 := by assumption
      have on := sees_on hE hlo' ⟨cd0, cd1⟩ hd0 ⟨ds0, hd2⟩ hcl
      have hee := he.ee
      rename Fr g L1 _ _ => F15
      rename News g L1 _ _ => N15
      let Jc : Heap → Prop := fun h' => ∀ G : Prop, (∀ (m' : Str → Option Value) (fd : Addr) (fvs : List Value) (aQ : Array Value) (cq : Nat) (tsy : Tok) (frs : List Rec) (rq : List (Int × Int)) (nz : List (Addr × Obj)), Fr g L1 h' m' → News g L1 h' ((rd, listOf aQ cq) :: (L1 + 1 + 1, oc') :: (L1 + 1, ol') :: (153, tabObj tb) :: nz) → NmAre m' [("c", .ref cc), ("bits", .int bi tbi), ("size", .int z tz), ("end", .int e te), ("laid", .ref la), ("row", .ref rw), ("before", .ref bf), ("says", .str (Str.ofString "bad") tsy), ("due", .ref bf), ("reads", .ref rd), ("found", .ref fd)] → (Off nz ny [rd, L1 + 1 + 1, L1 + 1, 153]) → ((fd, LCg.lst fvs) ∈ nz) → (RecsAre nz fvs frs) → (AskedAre z nz aQ.toList rq) → (rq.length ≤ 3) → (FoundOk (tapeB z ps) e cd frs rq) → G) → G
      with_reducible refine Jn.ckpt 3 Jc ?_ ?_
      · dsimp only [List.take, List.drop]
        k_fold
        (repeat' (first | ((with_reducible refine Blk.into ?_); (first | (with_reducible ((with_reducible show wpAny _ _ (subscriptTail _ _ (Value.ref _) (Value.int _ _)) _ _ _); (k_dflt (refine my_item (by k_asm) (by repeat (first | with_reducible assumption | refine memS ?_)) (by decide) (by decide) (by with_unfolding_all rfl) ?_ (by with_unfolding_all rfl))); (try simp only [Int.reduceToNat, List.getElem_toArray, List.getElem_cons_zero, List.getElem_cons_succ]))) | (with_reducible ((with_reducible show wpAny _ _ (subscriptTail _ _ (Value.ref _) (Value.int _ _)) _ _ _); (k_dflt (refine item_tupleT (News.isTup (by k_asm) (by repeat (first | with_reducible assumption | refine memS ?_))) (by decide) (by decide) (by rfl) (by rfl) ?_)))) | (with_reducible ((with_reducible show wpAny _ _ (binaryOp .Pow (Value.int 2 _) (Value.int _ _)) _ _ _); (refine my_pow (by omega) (by omega) ?_); intro v' p' e'; cases p'; (try replace e' := pow32 e'); (try replace e' := pow64 e'))) | (with_reducible ((with_reducible show wpAny _ _ (binaryOp .Mod (Value.int _ _) (Value.int _ _)) _ _ _); (refine my_mod (by omega) ?_); intro r' e' r0' r1')) | (with_reducible ((with_reducible show wpAny _ _ (binaryOp .Mult (Value.int _ _) (Value.int _ _)) _ _ _); (refine my_mul (by omega) ?_))) | (with_reducible ((with_reducible show wpAny _ _ (binaryOp .FloorDiv (Value.int _ _) (Value.int _ _)) _ _ _); (refine my_fdiv (by omega) (by omega) ?_); intro q' e' b')) | (with_reducible ((with_reducible show wpAny _ _ (binaryOp .BitXor (Value.int _ _) (Value.int 1 _)) _ _ _); (refine my_xor ?_); intro x' e')) | (with_reducible ((with_reducible show wpAny _ _ (call (Value.ref 137) _) _ _ _); k_dflt (refine' record_call ?_ (by exact ⟨by k_asm, by k_asm, by k_asm, by k_asm, by k_asm, by first | exact rfl | (first | with_reducible assumption | assumption), by (simp only [depth_deeper, depth_in1, ktrTop]; omega), by (simp only [units_deeper, units_in1, ktrTop]; omega)⟩) (by repeat (first | with_reducible assumption | exact List.Mem.head _ | refine memS ?_)) ?_; · rfl); intro t' h' tk' F' N'; (try k_sweep))) | (with_reducible ((with_reducible show wpAny _ _ (call (Value.ref 130) _) _ _ _); k_dflt (refine low_call (by omega) (by exact ⟨by k_asm, by k_asm, by k_asm, by k_asm, by k_asm, by first | exact rfl | (first | with_reducible assumption | assumption), by (simp only [depth_deeper, depth_in1, ktrTop]; omega), by (simp only [units_deeper, units_in1, ktrTop]; omega)⟩) ?_); intro t' h' tk' F' N'; (try k_sweep))) | (with_reducible ((with_reducible show wpAny _ _ (call (Value.ref 151) _) _ _ _); k_dflt (refine back_call (by omega) (by omega) (by omega) (by omega) (by exact ⟨by k_asm, by k_asm, by k_asm, by k_asm, by k_asm, by first | exact rfl | (first | with_reducible assumption | assumption), by (simp only [depth_deeper, depth_in1, ktrTop]; omega), by (simp only [units_deeper, units_in1, ktrTop]; omega)⟩) ?_); intro V' P' D' uV' uP' c' h' tk' eV' eP0' eP1' F' N' l1'; (have l1' := allLt_of l1'); (simp only [AllLt] at l1'); (try k_sweep))) | (with_reducible ((with_reducible show wpAny _ _ (binaryOp .Add (Value.bytes _ _) (Value.bytes _ _)) _ _ _); ((first | (with_reducible refine my_badd ?_ ?_) | refine my_badd (a := [_, _, _, _]) ?_ ?_ | refine my_badd ?_ ?_); · (simp only [List.length_append, lowL_length, List.length_cons, List.length_nil]; omega)); intro t' tk')) | (with_reducible ((with_reducible show wpAny _ _ (subscriptTail _ (Expr.Slice none (some (Expr.Name ("cut" : Str) _)) none _) (Value.ref _) (Value.ref _)) _ _ _); k_dflt (refine' kmk_slice (by k_asm) (by k_asm) (by kmk_list) (by kmk_part) (by kmk_part) ?_ (by with_unfolding_all rfl) (by kmk_pure) (by (show _ ≤ 16777216; omega))); intro D' h' F' N' l1; (try k_lt l1); (try k_sweep))) | (with_reducible ((with_reducible show wpAny _ _ (compareOp .Eq (Value.ref _) (Value.ref _)) _ _ _); first | (first | refine eq_empty_yes (by k_asm) (by repeat (first | with_reducible assumption | exact List.Mem.head _ | refine memS ?_)) (by exact List.Mem.head _) (by ((try simp only [units_deeper, units_in1, ktrTop, cLine_is]); omega)) ?_ | refine eq_empty_no (by k_asm) (by repeat (first | with_reducible assumption | exact List.Mem.head _ | refine memS ?_)) (by exact List.Mem.head _) (by ((try simp only [units_deeper, units_in1, ktrTop, cLine_is]); omega)) ?_) | k_dflt (first | refine eq_empty_yes (by k_asm) (by repeat (first | with_reducible assumption | exact List.Mem.head _ | refine memS ?_)) (by exact List.Mem.head _) (by ((try simp only [units_deeper, units_in1, ktrTop, cLine_is]); omega)) ?_ | refine eq_empty_no (by k_asm) (by repeat (first | with_reducible assumption | exact List.Mem.head _ | refine memS ?_)) (by exact List.Mem.head _) (by ((try simp only [units_deeper, units_in1, ktrTop, cLine_is]); omega)) ?_))) | ((with_reducible show wpAny _ _ (call (Value.builtin "len") [Value.ref _]) _ _ _); k_dflt (refine my_lenL (by k_asm) (by repeat (first | with_reducible assumption | exact List.Mem.head _ | refine memS ?_)) (by omega) ?_); intro _ _))) | (k_unfold; (try dsimp only)) | (k_end; wrow_close) | walk1 | (dsimp only; walk1) | (leave1; (try dsimp only))))
        refine Blk.into ?_
        refine LCt.Assign_ListComp_T (F₀ := by k_asm) (by rfl) (by with_unfolding_all rfl) (by with_unfolding_all rfl) (by decide) (by rfl) (by decide) (by rfl) (by rfl) (by rfl) ?_
        k_dflt (repeat (first | walk1 | (dsimp only; walk1)))
        refine Cp.ledger_all (fun i ys => RecsAre ny ys ((rs.take i).filter fun r => r.1 == cd)) (by rfl) (by k_asm) (by k_asm) (by repeat (first | with_reducible assumption | exact List.Mem.head _ | refine memS ?_)) (by show aR.size ≤ 16777216; omega) recs_nil ?_ ?_
        · intro g' i ys v hv hj I oI C oC D m₂ h tk E' hC hx F' N' off' ne'
          have hi : ∃ r, rs[i]? = some r := by
            have h1 := hr2.1
            have h2 : i < aR.toList.length := by
              rw [← Array.getElem?_toList] at hv
              exact (List.getElem?_eq_some_iff.mp hv).1
            exact ⟨rs[i], List.getElem?_eq_getElem (by omega)⟩
          obtain ⟨r, hr⟩ := hi
          obtain ⟨a, b, tw, ts, c, c', f0', f1', f2', f3', f4', f5', u0, u1, u2, u3, u4, u5, e1, e2, e3, e4⟩ := hr2.2 i r hr
          have ev : v = .ref a := by rw [← Array.getElem?_toList, e1] at hv; exact (Option.some.inj hv).symm
          subst ev
          (repeat' (first | ((with_reducible refine Blk.into ?_); (first | (with_reducible ((with_reducible show wpAny _ _ (subscriptTail _ _ (Value.ref _) (Value.int _ _)) _ _ _); (k_dflt (refine my_item (by k_asm) (by repeat (first | with_reducible assumption | refine memS ?_)) (by decide) (by decide) (by with_unfolding_all rfl) ?_ (by with_unfolding_all rfl))); (try simp only [Int.reduceToNat, List.getElem_toArray, List.getElem_cons_zero, List.getElem_cons_succ]))) | (with_reducible ((with_reducible show wpAny _ _ (subscriptTail _ _ (Value.ref _) (Value.int _ _)) _ _ _); (k_dflt (refine item_tupleT (News.isTup (by k_asm) (by repeat (first | with_reducible assumption | refine memS ?_))) (by decide) (by decide) (by rfl) (by rfl) ?_)))) | (with_reducible ((with_reducible show wpAny _ _ (binaryOp .Pow (Value.int 2 _) (Value.int _ _)) _ _ _); (refine my_pow (by omega) (by omega) ?_); intro v' p' e'; cases p'; (try replace e' := pow32 e'); (try replace e' := pow64 e'))) | (with_reducible ((with_reducible show wpAny _ _ (binaryOp .Mod (Value.int _ _) (Value.int _ _)) _ _ _); (refine my_mod (by omega) ?_); intro r' e' r0' r1')) | (with_reducible ((with_reducible show wpAny _ _ (binaryOp .Mult (Value.int _ _) (Value.int _ _)) _ _ _); (refine my_mul (by omega) ?_))) | (with_reducible ((with_reducible show wpAny _ _ (binaryOp .FloorDiv (Value.int _ _) (Value.int _ _)) _ _ _); (refine my_fdiv (by omega) (by omega) ?_); intro q' e' b')) | (with_reducible ((with_reducible show wpAny _ _ (binaryOp .BitXor (Value.int _ _) (Value.int 1 _)) _ _ _); (refine my_xor ?_); intro x' e')) | (with_reducible ((with_reducible show wpAny _ _ (call (Value.ref 137) _) _ _ _); k_dflt (refine' record_call ?_ (by exact ⟨by k_asm, by k_asm, by k_asm, by k_asm, by k_asm, by first | exact rfl | (first | with_reducible assumption | assumption), by (simp only [depth_deeper, depth_in1, ktrTop]; omega), by (simp only [units_deeper, units_in1, ktrTop]; omega)⟩) (by repeat (first | with_reducible assumption | exact List.Mem.head _ | refine memS ?_)) ?_; · rfl); intro t' h' tk' F' N'; (try k_sweep))) | (with_reducible ((with_reducible show wpAny _ _ (call (Value.ref 130) _) _ _ _); k_dflt (refine low_call (by omega) (by exact ⟨by k_asm, by k_asm, by k_asm, by k_asm, by k_asm, by first | exact rfl | (first | with_reducible assumption | assumption), by (simp only [depth_deeper, depth_in1, ktrTop]; omega), by (simp only [units_deeper, units_in1, ktrTop]; omega)⟩) ?_); intro t' h' tk' F' N'; (try k_sweep))) | (with_reducible ((with_reducible show wpAny _ _ (call (Value.ref 151) _) _ _ _); k_dflt (refine back_call (by omega) (by omega) (by omega) (by omega) (by exact ⟨by k_asm, by k_asm, by k_asm, by k_asm, by k_asm, by first | exact rfl | (first | with_reducible assumption | assumption), by (simp only [depth_deeper, depth_in1, ktrTop]; omega), by (simp only [units_deeper, units_in1, ktrTop]; omega)⟩) ?_); intro V' P' D' uV' uP' c' h' tk' eV' eP0' eP1' F' N' l1'; (have l1' := allLt_of l1'); (simp only [AllLt] at l1'); (try k_sweep))) | (with_reducible ((with_reducible show wpAny _ _ (binaryOp .Add (Value.bytes _ _) (Value.bytes _ _)) _ _ _); ((first | (with_reducible refine my_badd ?_ ?_) | refine my_badd (a := [_, _, _, _]) ?_ ?_ | refine my_badd ?_ ?_); · (simp only [List.length_append, lowL_length, List.length_cons, List.length_nil]; omega)); intro t' tk')) | (with_reducible ((with_reducible show wpAny _ _ (subscriptTail _ (Expr.Slice none (some (Expr.Name ("cut" : Str) _)) none _) (Value.ref _) (Value.ref _)) _ _ _); k_dflt (refine' kmk_slice (by k_asm) (by k_asm) (by kmk_list) (by kmk_part) (by kmk_part) ?_ (by with_unfolding_all rfl) (by kmk_pure) (by (show _ ≤ 16777216; omega))); intro D' h' F' N' l1; (try k_lt l1); (try k_sweep))) | (with_reducible ((with_reducible show wpAny _ _ (compareOp .Eq (Value.ref _) (Value.ref _)) _ _ _); first | (first | refine eq_empty_yes (by k_asm) (by repeat (first | with_reducible assumption | exact List.Mem.head _ | refine memS ?_)) (by exact List.Mem.head _) (by ((try simp only [units_deeper, units_in1, ktrTop, cLine_is]); omega)) ?_ | refine eq_empty_no (by k_asm) (by repeat (first | with_reducible assumption | exact List.Mem.head _ | refine memS ?_)) (by exact List.Mem.head _) (by ((try simp only [units_deeper, units_in1, ktrTop, cLine_is]); omega)) ?_) | k_dflt (first | refine eq_empty_yes (by k_asm) (by repeat (first | with_reducible assumption | exact List.Mem.head _ | refine memS ?_)) (by exact List.Mem.head _) (by ((try simp only [units_deeper, units_in1, ktrTop, cLine_is]); omega)) ?_ | refine eq_empty_no (by k_asm) (by repeat (first | with_reducible assumption | exact List.Mem.head _ | refine memS ?_)) (by exact List.Mem.head _) (by ((try simp only [units_deeper, units_in1, ktrTop, cLine_is]); omega)) ?_))) | ((with_reducible show wpAny _ _ (call (Value.builtin "len") [Value.ref _]) _ _ _); k_dflt (refine my_lenL (by k_asm) (by repeat (first | with_reducible assumption | exact List.Mem.head _ | refine memS ?_)) (by omega) ?_); intro _ _))) | (k_unfold; (try dsimp only)) | (k_end; wrow_close) | walk1 | (dsimp only; walk1) | (leave1; (try dsimp only))))
          · exact LCg.CompEnd.intro (by k_asm) (by k_asm) _ (fun p hp => hp) off' (.inr ⟨_, by repeat (first | with_reducible assumption | exact List.Mem.head _ | refine memS ?_), rfl, _, rfl⟩) ⟨rfl, recs_yes hj hr (by assumption) e2 e3 e4⟩
          · exact LCg.CompEnd.intro (by k_asm) (by k_asm) _ (fun p hp => hp) off' (.inr ⟨_, by repeat (first | with_reducible assumption | exact List.Mem.head _ | refine memS ?_), rfl, _, rfl⟩) ⟨rfl, recs_no hj hr (by assumption)⟩
        intro g' ys hj
        rw [List.take_of_length_le (by have := hr2.1; simp at this; omega)] at hj
        unfold LCg.FinA
        intro D h' tk' F' N' o1'
        simp only [LCg.Off1] at o1'
        by_cases hn : (rs.filter fun r => r.1 == cd) = []
        · rw [hn] at hj
          have := recs_none hj
          subst this
          (repeat' (first | ((with_reducible refine Blk.into ?_); (first | (with_reducible ((with_reducible show wpAny _ _ (subscriptTail _ _ (Value.ref _) (Value.int _ _)) _ _ _); (k_dflt (refine my_item (by k_asm) (by repeat (first | with_reducible assumption | refine memS ?_)) (by decide) (by decide) (by with_unfolding_all rfl) ?_ (by with_unfolding_all rfl))); (try simp only [Int.reduceToNat, List.getElem_toArray, List.getElem_cons_zero, List.getElem_cons_succ]))) | (with_reducible ((with_reducible show wpAny _ _ (subscriptTail _ _ (Value.ref _) (Value.int _ _)) _ _ _); (k_dflt (refine item_tupleT (News.isTup (by k_asm) (by repeat (first | with_reducible assumption | refine memS ?_))) (by decide) (by decide) (by rfl) (by rfl) ?_)))) | (with_reducible ((with_reducible show wpAny _ _ (binaryOp .Pow (Value.int 2 _) (Value.int _ _)) _ _ _); (refine my_pow (by omega) (by omega) ?_); intro v' p' e'; cases p'; (try replace e' := pow32 e'); (try replace e' := pow64 e'))) | (with_reducible ((with_reducible show wpAny _ _ (binaryOp .Mod (Value.int _ _) (Value.int _ _)) _ _ _); (refine my_mod (by omega) ?_); intro r' e' r0' r1')) | (with_reducible ((with_reducible show wpAny _ _ (binaryOp .Mult (Value.int _ _) (Value.int _ _)) _ _ _); (refine my_mul (by omega) ?_))) | (with_reducible ((with_reducible show wpAny _ _ (binaryOp .FloorDiv (Value.int _ _) (Value.int _ _)) _ _ _); (refine my_fdiv (by omega) (by omega) ?_); intro q' e' b')) | (with_reducible ((with_reducible show wpAny _ _ (binaryOp .BitXor (Value.int _ _) (Value.int 1 _)) _ _ _); (refine my_xor ?_); intro x' e')) | (with_reducible ((with_reducible show wpAny _ _ (call (Value.ref 137) _) _ _ _); k_dflt (refine' record_call ?_ (by exact ⟨by k_asm, by k_asm, by k_asm, by k_asm, by k_asm, by first | exact rfl | (first | with_reducible assumption | assumption), by (simp only [depth_deeper, depth_in1, ktrTop]; omega), by (simp only [units_deeper, units_in1, ktrTop]; omega)⟩) (by repeat (first | with_reducible assumption | exact List.Mem.head _ | refine memS ?_)) ?_; · rfl); intro t' h' tk' F' N'; (try k_sweep))) | (with_reducible ((with_reducible show wpAny _ _ (call (Value.ref 130) _) _ _ _); k_dflt (refine low_call (by omega) (by exact ⟨by k_asm, by k_asm, by k_asm, by k_asm, by k_asm, by first | exact rfl | (first | with_reducible assumption | assumption), by (simp only [depth_deeper, depth_in1, ktrTop]; omega), by (simp only [units_deeper, units_in1, ktrTop]; omega)⟩) ?_); intro t' h' tk' F' N'; (try k_sweep))) | (with_reducible ((with_reducible show wpAny _ _ (call (Value.ref 151) _) _ _ _); k_dflt (refine back_call (by omega) (by omega) (by omega) (by omega) (by exact ⟨by k_asm, by k_asm, by k_asm, by k_asm, by k_asm, by first | exact rfl | (first | with_reducible assumption | assumption), by (simp only [depth_deeper, depth_in1, ktrTop]; omega), by (simp only [units_deeper, units_in1, ktrTop]; omega)⟩) ?_); intro V' P' D' uV' uP' c' h' tk' eV' eP0' eP1' F' N' l1'; (have l1' := allLt_of l1'); (simp only [AllLt] at l1'); (try k_sweep))) | (with_reducible ((with_reducible show wpAny _ _ (binaryOp .Add (Value.bytes _ _) (Value.bytes _ _)) _ _ _); ((first | (with_reducible refine my_badd ?_ ?_) | refine my_badd (a := [_, _, _, _]) ?_ ?_ | refine my_badd ?_ ?_); · (simp only [List.length_append, lowL_length, List.length_cons, List.length_nil]; omega)); intro t' tk')) | (with_reducible ((with_reducible show wpAny _ _ (subscriptTail _ (Expr.Slice none (some (Expr.Name ("cut" : Str) _)) none _) (Value.ref _) (Value.ref _)) _ _ _); k_dflt (refine' kmk_slice (by k_asm) (by k_asm) (by kmk_list) (by kmk_part) (by kmk_part) ?_ (by with_unfolding_all rfl) (by kmk_pure) (by (show _ ≤ 16777216; omega))); intro D' h' F' N' l1; (try k_lt l1); (try k_sweep))) | (with_reducible ((with_reducible show wpAny _ _ (compareOp .Eq (Value.ref _) (Value.ref _)) _ _ _); first | (first | refine eq_empty_yes (by k_asm) (by repeat (first | with_reducible assumption | exact List.Mem.head _ | refine memS ?_)) (by exact List.Mem.head _) (by ((try simp only [units_deeper, units_in1, ktrTop, cLine_is]); omega)) ?_ | refine eq_empty_no (by k_asm) (by repeat (first | with_reducible assumption | exact List.Mem.head _ | refine memS ?_)) (by exact List.Mem.head _) (by ((try simp only [units_deeper, units_in1, ktrTop, cLine_is]); omega)) ?_) | k_dflt (first | refine eq_empty_yes (by k_asm) (by repeat (first | with_reducible assumption | exact List.Mem.head _ | refine memS ?_)) (by exact List.Mem.head _) (by ((try simp only [units_deeper, units_in1, ktrTop, cLine_is]); omega)) ?_ | refine eq_empty_no (by k_asm) (by repeat (first | with_reducible assumption | exact List.Mem.head _ | refine memS ?_)) (by exact List.Mem.head _) (by ((try simp only [units_deeper, units_in1, ktrTop, cLine_is]); omega)) ?_))) | ((with_reducible show wpAny _ _ (call (Value.builtin "len") [Value.ref _]) _ _ _); k_dflt (refine my_lenL (by k_asm) (by repeat (first | with_reducible assumption | exact List.Mem.head _ | refine memS ?_)) (by omega) ?_); intro _ _))) | (k_unfold; (try dsimp only)) | (k_end; wrow_close) | walk1 | (dsimp only; walk1) | (leave1; (try dsimp only))))
          · refine Blk.into ?_
            refine LCt.Assign_ListComp_T (F₀ := by k_asm) (by rfl) (by with_unfolding_all rfl) (by with_unfolding_all rfl) (by decide) (by rfl) (by decide) (by rfl) (by rfl) (by rfl) ?_
            k_dflt (repeat (first | walk1 | (dsimp only; walk1)))
            refine Cp.ledger_all (fun i ys => RecsAre ny ys ((rs.take i).filter fun r => r.1 == (e - 76))) (by rfl) (by k_asm) (by k_asm) (by repeat (first | with_reducible assumption | exact List.Mem.head _ | refine memS ?_)) (by show aR.size ≤ 16777216; omega) recs_nil ?_ ?_
            · intro g' i ys v hv hj I oI C oC D m₂ h tk E' hC hx F' N' off' ne'
              have hi : ∃ r, rs[i]? = some r := by
                have h1 := hr2.1
                have h2 : i < aR.toList.length := by
                  rw [← Array.getElem?_toList] at hv
                  exact (List.getElem?_eq_some_iff.mp hv).1
                exact ⟨rs[i], List.getElem?_eq_getElem (by omega)⟩
              obtain ⟨r, hr⟩ := hi
              obtain ⟨a, b, tw, ts, c, c', f0', f1', f2', f3', f4', f5', u0, u1, u2, u3, u4, u5, e1, e2, e3, e4⟩ := hr2.2 i r hr
              have ev : v = .ref a := by rw [← Array.getElem?_toList, e1] at hv; exact (Option.some.inj hv).symm
              subst ev
              (repeat' (first | ((with_reducible refine Blk.into ?_); (first | (with_reducible ((with_reducible show wpAny _ _ (subscriptTail _ _ (Value.ref _) (Value.int _ _)) _ _ _); (k_dflt (refine my_item (by k_asm) (by repeat (first | with_reducible assumption | refine memS ?_)) (by decide) (by decide) (by with_unfolding_all rfl) ?_ (by with_unfolding_all rfl))); (try simp only [Int.reduceToNat, List.getElem_toArray, List.getElem_cons_zero, List.getElem_cons_succ]))) | (with_reducible ((with_reducible show wpAny _ _ (subscriptTail _ _ (Value.ref _) (Value.int _ _)) _ _ _); (k_dflt (refine item_tupleT (News.isTup (by k_asm) (by repeat (first | with_reducible assumption | refine memS ?_))) (by decide) (by decide) (by rfl) (by rfl) ?_)))) | (with_reducible ((with_reducible show wpAny _ _ (binaryOp .Pow (Value.int 2 _) (Value.int _ _)) _ _ _); (refine my_pow (by omega) (by omega) ?_); intro v' p' e'; cases p'; (try replace e' := pow32 e'); (try replace e' := pow64 e'))) | (with_reducible ((with_reducible show wpAny _ _ (binaryOp .Mod (Value.int _ _) (Value.int _ _)) _ _ _); (refine my_mod (by omega) ?_); intro r' e' r0' r1')) | (with_reducible ((with_reducible show wpAny _ _ (binaryOp .Mult (Value.int _ _) (Value.int _ _)) _ _ _); (refine my_mul (by omega) ?_))) | (with_reducible ((with_reducible show wpAny _ _ (binaryOp .FloorDiv (Value.int _ _) (Value.int _ _)) _ _ _); (refine my_fdiv (by omega) (by omega) ?_); intro q' e' b')) | (with_reducible ((with_reducible show wpAny _ _ (binaryOp .BitXor (Value.int _ _) (Value.int 1 _)) _ _ _); (refine my_xor ?_); intro x' e')) | (with_reducible ((with_reducible show wpAny _ _ (call (Value.ref 137) _) _ _ _); k_dflt (refine' record_call ?_ (by exact ⟨by k_asm, by k_asm, by k_asm, by k_asm, by k_asm, by first | exact rfl | (first | with_reducible assumption | assumption), by (simp only [depth_deeper, depth_in1, ktrTop]; omega), by (simp only [units_deeper, units_in1, ktrTop]; omega)⟩) (by repeat (first | with_reducible assumption | exact List.Mem.head _ | refine memS ?_)) ?_; · rfl); intro t' h' tk' F' N'; (try k_sweep))) | (with_reducible ((with_reducible show wpAny _ _ (call (Value.ref 130) _) _ _ _); k_dflt (refine low_call (by omega) (by exact ⟨by k_asm, by k_asm, by k_asm, by k_asm, by k_asm, by first | exact rfl | (first | with_reducible assumption | assumption), by (simp only [depth_deeper, depth_in1, ktrTop]; omega), by (simp only [units_deeper, units_in1, ktrTop]; omega)⟩) ?_); intro t' h' tk' F' N'; (try k_sweep))) | (with_reducible ((with_reducible show wpAny _ _ (call (Value.ref 151) _) _ _ _); k_dflt (refine back_call (by omega) (by omega) (by omega) (by omega) (by exact ⟨by k_asm, by k_asm, by k_asm, by k_asm, by k_asm, by first | exact rfl | (first | with_reducible assumption | assumption), by (simp only [depth_deeper, depth_in1, ktrTop]; omega), by (simp only [units_deeper, units_in1, ktrTop]; omega)⟩) ?_); intro V' P' D' uV' uP' c' h' tk' eV' eP0' eP1' F' N' l1'; (have l1' := allLt_of l1'); (simp only [AllLt] at l1'); (try k_sweep))) | (with_reducible ((with_reducible show wpAny _ _ (binaryOp .Add (Value.bytes _ _) (Value.bytes _ _)) _ _ _); ((first | (with_reducible refine my_badd ?_ ?_) | refine my_badd (a := [_, _, _, _]) ?_ ?_ | refine my_badd ?_ ?_); · (simp only [List.length_append, lowL_length, List.length_cons, List.length_nil]; omega)); intro t' tk')) | (with_reducible ((with_reducible show wpAny _ _ (subscriptTail _ (Expr.Slice none (some (Expr.Name ("cut" : Str) _)) none _) (Value.ref _) (Value.ref _)) _ _ _); k_dflt (refine' kmk_slice (by k_asm) (by k_asm) (by kmk_list) (by kmk_part) (by kmk_part) ?_ (by with_unfolding_all rfl) (by kmk_pure) (by (show _ ≤ 16777216; omega))); intro D' h' F' N' l1; (try k_lt l1); (try k_sweep))) | (with_reducible ((with_reducible show wpAny _ _ (compareOp .Eq (Value.ref _) (Value.ref _)) _ _ _); first | (first | refine eq_empty_yes (by k_asm) (by repeat (first | with_reducible assumption | exact List.Mem.head _ | refine memS ?_)) (by exact List.Mem.head _) (by ((try simp only [units_deeper, units_in1, ktrTop, cLine_is]); omega)) ?_ | refine eq_empty_no (by k_asm) (by repeat (first | with_reducible assumption | exact List.Mem.head _ | refine memS ?_)) (by exact List.Mem.head _) (by ((try simp only [units_deeper, units_in1, ktrTop, cLine_is]); omega)) ?_) | k_dflt (first | refine eq_empty_yes (by k_asm) (by repeat (first | with_reducible assumption | exact List.Mem.head _ | refine memS ?_)) (by exact List.Mem.head _) (by ((try simp only [units_deeper, units_in1, ktrTop, cLine_is]); omega)) ?_ | refine eq_empty_no (by k_asm) (by repeat (first | with_reducible assumption | exact List.Mem.head _ | refine memS ?_)) (by exact List.Mem.head _) (by ((try simp only [units_deeper, units_in1, ktrTop, cLine_is]); omega)) ?_))) | ((with_reducible show wpAny _ _ (call (Value.builtin "len") [Value.ref _]) _ _ _); k_dflt (refine my_lenL (by k_asm) (by repeat (first | with_reducible assumption | exact List.Mem.head _ | refine memS ?_)) (by omega) ?_); intro _ _))) | (k_unfold; (try dsimp only)) | (k_end; wrow_close) | walk1 | (dsimp only; walk1) | (leave1; (try dsimp only))))
              · exact LCg.CompEnd.intro (by k_asm) (by k_asm) _ (fun p hp => hp) off' (.inr ⟨_, by repeat (first | with_reducible assumption | exact List.Mem.head _ | refine memS ?_), rfl, _, rfl⟩) ⟨rfl, recs_yes hj hr (by assumption) e2 e3 e4⟩
              · exact LCg.CompEnd.intro (by k_asm) (by k_asm) _ (fun p hp => hp) off' (.inr ⟨_, by repeat (first | with_reducible assumption | exact List.Mem.head _ | refine memS ?_), rfl, _, rfl⟩) ⟨rfl, recs_no hj hr (by assumption)⟩
            intro g' ys hj
            rw [List.take_of_length_le (by have := hr2.1; simp at this; omega)] at hj
            unfold LCg.FinA
            intro D h' tk' F' N' o1'
            simp only [LCg.Off1] at o1'
            (repeat' (first | ((with_reducible refine Blk.into ?_); (first | (with_reducible ((with_reducible show wpAny _ _ (subscriptTail _ _ (Value.ref _) (Value.int _ _)) _ _ _); (k_dflt (refine my_item (by k_asm) (by repeat (first | with_reducible assumption | refine memS ?_)) (by decide) (by decide) (by with_unfolding_all rfl) ?_ (by with_unfolding_all rfl))); (try simp only [Int.reduceToNat, List.getElem_toArray, List.getElem_cons_zero, List.getElem_cons_succ]))) | (with_reducible ((with_reducible show wpAny _ _ (subscriptTail _ _ (Value.ref _) (Value.int _ _)) _ _ _); (k_dflt (refine item_tupleT (News.isTup (by k_asm) (by repeat (first | with_reducible assumption | refine memS ?_))) (by decide) (by decide) (by rfl) (by rfl) ?_)))) | (with_reducible ((with_reducible show wpAny _ _ (binaryOp .Pow (Value.int 2 _) (Value.int _ _)) _ _ _); (refine my_pow (by omega) (by omega) ?_); intro v' p' e'; cases p'; (try replace e' := pow32 e'); (try replace e' := pow64 e'))) | (with_reducible ((with_reducible show wpAny _ _ (binaryOp .Mod (Value.int _ _) (Value.int _ _)) _ _ _); (refine my_mod (by omega) ?_); intro r' e' r0' r1')) | (with_reducible ((with_reducible show wpAny _ _ (binaryOp .Mult (Value.int _ _) (Value.int _ _)) _ _ _); (refine my_mul (by omega) ?_))) | (with_reducible ((with_reducible show wpAny _ _ (binaryOp .FloorDiv (Value.int _ _) (Value.int _ _)) _ _ _); (refine my_fdiv (by omega) (by omega) ?_); intro q' e' b')) | (with_reducible ((with_reducible show wpAny _ _ (binaryOp .BitXor (Value.int _ _) (Value.int 1 _)) _ _ _); (refine my_xor ?_); intro x' e')) | (with_reducible ((with_reducible show wpAny _ _ (call (Value.ref 137) _) _ _ _); k_dflt (refine' record_call ?_ (by exact ⟨by k_asm, by k_asm, by k_asm, by k_asm, by k_asm, by first | exact rfl | (first | with_reducible assumption | assumption), by (simp only [depth_deeper, depth_in1, ktrTop]; omega), by (simp only [units_deeper, units_in1, ktrTop]; omega)⟩) (by repeat (first | with_reducible assumption | exact List.Mem.head _ | refine memS ?_)) ?_; · rfl); intro t' h' tk' F' N'; (try k_sweep))) | (with_reducible ((with_reducible show wpAny _ _ (call (Value.ref 130) _) _ _ _); k_dflt (refine low_call (by omega) (by exact ⟨by k_asm, by k_asm, by k_asm, by k_asm, by k_asm, by first | exact rfl | (first | with_reducible assumption | assumption), by (simp only [depth_deeper, depth_in1, ktrTop]; omega), by (simp only [units_deeper, units_in1, ktrTop]; omega)⟩) ?_); intro t' h' tk' F' N'; (try k_sweep))) | (with_reducible ((with_reducible show wpAny _ _ (call (Value.ref 151) _) _ _ _); k_dflt (refine back_call (by omega) (by omega) (by omega) (by omega) (by exact ⟨by k_asm, by k_asm, by k_asm, by k_asm, by k_asm, by first | exact rfl | (first | with_reducible assumption | assumption), by (simp only [depth_deeper, depth_in1, ktrTop]; omega), by (simp only [units_deeper, units_in1, ktrTop]; omega)⟩) ?_); intro V' P' D' uV' uP' c' h' tk' eV' eP0' eP1' F' N' l1'; (have l1' := allLt_of l1'); (simp only [AllLt] at l1'); (try k_sweep))) | (with_reducible ((with_reducible show wpAny _ _ (binaryOp .Add (Value.bytes _ _) (Value.bytes _ _)) _ _ _); ((first | (with_reducible refine my_badd ?_ ?_) | refine my_badd (a := [_, _, _, _]) ?_ ?_ | refine my_badd ?_ ?_); · (simp only [List.length_append, lowL_length, List.length_cons, List.length_nil]; omega)); intro t' tk')) | (with_reducible ((with_reducible show wpAny _ _ (subscriptTail _ (Expr.Slice none (some (Expr.Name ("cut" : Str) _)) none _) (Value.ref _) (Value.ref _)) _ _ _); k_dflt (refine' kmk_slice (by k_asm) (by k_asm) (by kmk_list) (by kmk_part) (by kmk_part) ?_ (by with_unfolding_all rfl) (by kmk_pure) (by (show _ ≤ 16777216; omega))); intro D' h' F' N' l1; (try k_lt l1); (try k_sweep))) | (with_reducible ((with_reducible show wpAny _ _ (compareOp .Eq (Value.ref _) (Value.ref _)) _ _ _); first | (first | refine eq_empty_yes (by k_asm) (by repeat (first | with_reducible assumption | exact List.Mem.head _ | refine memS ?_)) (by exact List.Mem.head _) (by ((try simp only [units_deeper, units_in1, ktrTop, cLine_is]); omega)) ?_ | refine eq_empty_no (by k_asm) (by repeat (first | with_reducible assumption | exact List.Mem.head _ | refine memS ?_)) (by exact List.Mem.head _) (by ((try simp only [units_deeper, units_in1, ktrTop, cLine_is]); omega)) ?_) | k_dflt (first | refine eq_empty_yes (by k_asm) (by repeat (first | with_reducible assumption | exact List.Mem.head _ | refine memS ?_)) (by exact List.Mem.head _) (by ((try simp only [units_deeper, units_in1, ktrTop, cLine_is]); omega)) ?_ | refine eq_empty_no (by k_asm) (by repeat (first | with_reducible assumption | exact List.Mem.head _ | refine memS ?_)) (by exact List.Mem.head _) (by ((try simp only [units_deeper, units_in1, ktrTop, cLine_is]); omega)) ?_))) | ((with_reducible show wpAny _ _ (call (Value.builtin "len") [Value.ref _]) _ _ _); k_dflt (refine my_lenL (by k_asm) (by repeat (first | with_reducible assumption | exact List.Mem.head _ | refine memS ?_)) (by omega) ?_); intro _ _))) | (k_unfold; (try dsimp only)) | (k_end; wrow_close) | walk1 | (dsimp only; walk1) | (leave1; (try dsimp only))))
            have hcl2 : cd ≠ e - 76 := by assumption
            (refine ⟨_, _, rfl, ?_⟩; intro G k; refine Jn.un6 (k _ _ _ _ _ _ _ _ (offL _ [rd, L1 + 1 + 1, L1 + 1, 153]) (by k_asm) (by ((rename News _ _ _ _ => dN); refine cb_drop dN ?_; (repeat (refine List.forall_mem_cons.mpr ⟨by repeat (first | with_reducible assumption | exact List.Mem.head _ | refine memS ?_), ?_⟩)); (first | exact offL_sub | repeat (first | exact fun _ h => h | with_reducible assumption | refine subT ?_)))) (by repeat (first | exact nm_nil | refine nm_cons (by with_unfolding_all rfl) ?_))) ⟨offL_off (by repeat (first | exact fun _ h => h | with_reducible assumption | refine subT ?_)) S2.off, by exact offL_mem (by repeat (first | with_reducible assumption | exact List.Mem.head _ | refine memS ?_)) (by ((repeat (refine i1_cons (by ((try dsimp only); first | with_reducible assumption | (symm; with_reducible assumption) | exact Cm.nl1 (by with_reducible assumption) | exact Cm.ng1 (by with_reducible assumption) | exact Cm.nl2 (by with_reducible assumption) | exact Cm.ng2 (by with_reducible assumption) | exact Cm.nl3 (by with_reducible assumption) | exact Cm.ng3 (by with_reducible assumption) | exact Cm.nl4 (by with_reducible assumption) | exact Cm.ng4 (by with_reducible assumption) | exact Cm.nl5 (by with_reducible assumption) | exact Cm.ng5 (by with_reducible assumption) | exact Cm.nl6 (by with_reducible assumption) | exact Cm.ng6 (by with_reducible assumption) | exact Cm.nl7 (by with_reducible assumption) | exact Cm.ng7 (by with_reducible assumption) | exact Cm.nn1 (by with_reducible assumption) | exact Cm.nm1 (by with_reducible assumption) | exact Cm.nn2 (by with_reducible assumption) | exact Cm.nm2 (by with_reducible assumption) | exact Cm.nn3 (by with_reducible assumption) | exact Cm.nm3 (by with_reducible assumption) | exact Cm.nn4 (by with_reducible assumption) | exact Cm.nm4 (by with_reducible assumption) | exact Cm.nn5 (by with_reducible assumption) | exact Cm.nm5 (by with_reducible assumption) | omega)) ?_)); exact i1_nil)), recs_mono hj (offL_off (by repeat (first | exact fun _ h => h | with_reducible assumption | refine subT ?_)) S2.off).sub, by exact asked_push (fun _ h => h) (asked_push (offL_off (by repeat (first | exact fun _ h => h | with_reducible assumption | refine subT ?_)) S2.off).sub hq1 (by exact offL_mem (by repeat (first | with_reducible assumption | exact List.Mem.head _ | refine memS ?_)) (by ((repeat (refine i1_cons (by ((try dsimp only); first | with_reducible assumption | (symm; with_reducible assumption) | exact Cm.nl1 (by with_reducible assumption) | exact Cm.ng1 (by with_reducible assumption) | exact Cm.nl2 (by with_reducible assumption) | exact Cm.ng2 (by with_reducible assumption) | exact Cm.nl3 (by with_reducible assumption) | exact Cm.ng3 (by with_reducible assumption) | exact Cm.nl4 (by with_reducible assumption) | exact Cm.ng4 (by with_reducible assumption) | exact Cm.nl5 (by with_reducible assumption) | exact Cm.ng5 (by with_reducible assumption) | exact Cm.nl6 (by with_reducible assumption) | exact Cm.ng6 (by with_reducible assumption) | exact Cm.nl7 (by with_reducible assumption) | exact Cm.ng7 (by with_reducible assumption) | exact Cm.nn1 (by with_reducible assumption) | exact Cm.nm1 (by with_reducible assumption) | exact Cm.nn2 (by with_reducible assumption) | exact Cm.nm2 (by with_reducible assumption) | exact Cm.nn3 (by with_reducible assumption) | exact Cm.nm3 (by with_reducible assumption) | exact Cm.nn4 (by with_reducible assumption) | exact Cm.nm4 (by with_reducible assumption) | exact Cm.nn5 (by with_reducible assumption) | exact Cm.nm5 (by with_reducible assumption) | omega)) ?_)); exact i1_nil))) (o := cd) (by omega) cd0 (by omega)) (by exact offL_mem (by repeat (first | with_reducible assumption | exact List.Mem.head _ | refine memS ?_)) (by ((repeat (refine i1_cons (by ((try dsimp only); first | with_reducible assumption | (symm; with_reducible assumption) | exact Cm.nl1 (by with_reducible assumption) | exact Cm.ng1 (by with_reducible assumption) | exact Cm.nl2 (by with_reducible assumption) | exact Cm.ng2 (by with_reducible assumption) | exact Cm.nl3 (by with_reducible assumption) | exact Cm.ng3 (by with_reducible assumption) | exact Cm.nl4 (by with_reducible assumption) | exact Cm.ng4 (by with_reducible assumption) | exact Cm.nl5 (by with_reducible assumption) | exact Cm.ng5 (by with_reducible assumption) | exact Cm.nl6 (by with_reducible assumption) | exact Cm.ng6 (by with_reducible assumption) | exact Cm.nl7 (by with_reducible assumption) | exact Cm.ng7 (by with_reducible assumption) | exact Cm.nn1 (by with_reducible assumption) | exact Cm.nm1 (by with_reducible assumption) | exact Cm.nn2 (by with_reducible assumption) | exact Cm.nm2 (by with_reducible assumption) | exact Cm.nn3 (by with_reducible assumption) | exact Cm.nm3 (by with_reducible assumption) | exact Cm.nn4 (by with_reducible assumption) | exact Cm.nm4 (by with_reducible assumption) | exact Cm.nn5 (by with_reducible assumption) | exact Cm.nm5 (by with_reducible assumption) | omega)) ?_)); exact i1_nil))) (o := e - 76) (by omega) (by assumption) (by assumption), by simp, by exact found_last on (hl1.tc hcl) hn hcl2 (hl1.tl hcl)⟩)
          · have hcl2 : cd = e - 76 := by assumption
            (refine ⟨_, _, rfl, ?_⟩; intro G k; refine Jn.un6 (k _ _ _ _ _ _ _ _ (offL _ [rd, L1 + 1 + 1, L1 + 1, 153]) (by k_asm) (by ((rename News _ _ _ _ => dN); refine cb_drop dN ?_; (repeat (refine List.forall_mem_cons.mpr ⟨by repeat (first | with_reducible assumption | exact List.Mem.head _ | refine memS ?_), ?_⟩)); (first | exact offL_sub | repeat (first | exact fun _ h => h | with_reducible assumption | refine subT ?_)))) (by repeat (first | exact nm_nil | refine nm_cons (by with_unfolding_all rfl) ?_))) ⟨offL_off (by repeat (first | exact fun _ h => h | with_reducible assumption | refine subT ?_)) S2.off, by exact offL_mem (by repeat (first | with_reducible assumption | exact List.Mem.head _ | refine memS ?_)) (by ((repeat (refine i1_cons (by ((try dsimp only); first | with_reducible assumption | (symm; with_reducible assumption) | exact Cm.nl1 (by with_reducible assumption) | exact Cm.ng1 (by with_reducible assumption) | exact Cm.nl2 (by with_reducible assumption) | exact Cm.ng2 (by with_reducible assumption) | exact Cm.nl3 (by with_reducible assumption) | exact Cm.ng3 (by with_reducible assumption) | exact Cm.nl4 (by with_reducible assumption) | exact Cm.ng4 (by with_reducible assumption) | exact Cm.nl5 (by with_reducible assumption) | exact Cm.ng5 (by with_reducible assumption) | exact Cm.nl6 (by with_reducible assumption) | exact Cm.ng6 (by with_reducible assumption) | exact Cm.nl7 (by with_reducible assumption) | exact Cm.ng7 (by with_reducible assumption) | exact Cm.nn1 (by with_reducible assumption) | exact Cm.nm1 (by with_reducible assumption) | exact Cm.nn2 (by with_reducible assumption) | exact Cm.nm2 (by with_reducible assumption) | exact Cm.nn3 (by with_reducible assumption) | exact Cm.nm3 (by with_reducible assumption) | exact Cm.nn4 (by with_reducible assumption) | exact Cm.nm4 (by with_reducible assumption) | exact Cm.nn5 (by with_reducible assumption) | exact Cm.nm5 (by with_reducible assumption) | omega)) ?_)); exact i1_nil)), recs_nil, by exact asked_push (offL_off (by repeat (first | exact fun _ h => h | with_reducible assumption | refine subT ?_)) S2.off).sub hq1 (by exact offL_mem (by repeat (first | with_reducible assumption | exact List.Mem.head _ | refine memS ?_)) (by ((repeat (refine i1_cons (by ((try dsimp only); first | with_reducible assumption | (symm; with_reducible assumption) | exact Cm.nl1 (by with_reducible assumption) | exact Cm.ng1 (by with_reducible assumption) | exact Cm.nl2 (by with_reducible assumption) | exact Cm.ng2 (by with_reducible assumption) | exact Cm.nl3 (by with_reducible assumption) | exact Cm.ng3 (by with_reducible assumption) | exact Cm.nl4 (by with_reducible assumption) | exact Cm.ng4 (by with_reducible assumption) | exact Cm.nl5 (by with_reducible assumption) | exact Cm.ng5 (by with_reducible assumption) | exact Cm.nl6 (by with_reducible assumption) | exact Cm.ng6 (by with_reducible assumption) | exact Cm.nl7 (by with_reducible assumption) | exact Cm.ng7 (by with_reducible assumption) | exact Cm.nn1 (by with_reducible assumption) | exact Cm.nm1 (by with_reducible assumption) | exact Cm.nn2 (by with_reducible assumption) | exact Cm.nm2 (by with_reducible assumption) | exact Cm.nn3 (by with_reducible assumption) | exact Cm.nm3 (by with_reducible assumption) | exact Cm.nn4 (by with_reducible assumption) | exact Cm.nm4 (by with_reducible assumption) | exact Cm.nn5 (by with_reducible assumption) | exact Cm.nm5 (by with_reducible assumption) | omega)) ?_)); exact i1_nil))) (o := cd) (by omega) cd0 (by omega), by simp, by exact found_end on (hl1.tc hcl) hn hcl2⟩)
        · have fo := found_here on (hl1.tc hcl) hn
          rcases fo with ⟨h, _⟩ | ⟨o, lg, f0', f1', f2', f3', f4', f5', hfr, hE2, hfit⟩
          · exact absurd h hn
          · rw [hfr] at hj
            obtain ⟨a, b, tw, tz', c, c', u0, u1, u2, u3, u4, u5, rfl, hm, hm2⟩ := recs_one hj
            (repeat' (first | ((with_reducible refine Blk.into ?_); (first | (with_reducible ((with_reducible show wpAny _ _ (subscriptTail _ _ (Value.ref _) (Value.int _ _)) _ _ _); (k_dflt (refine my_item (by k_asm) (by repeat (first | with_reducible assumption | refine memS ?_)) (by decide) (by decide) (by with_unfolding_all rfl) ?_ (by with_unfolding_all rfl))); (try simp only [Int.reduceToNat, List.getElem_toArray, List.getElem_cons_zero, List.getElem_cons_succ]))) | (with_reducible ((with_reducible show wpAny _ _ (subscriptTail _ _ (Value.ref _) (Value.int _ _)) _ _ _); (k_dflt (refine item_tupleT (News.isTup (by k_asm) (by repeat (first | with_reducible assumption | refine memS ?_))) (by decide) (by decide) (by rfl) (by rfl) ?_)))) | (with_reducible ((with_reducible show wpAny _ _ (binaryOp .Pow (Value.int 2 _) (Value.int _ _)) _ _ _); (refine my_pow (by omega) (by omega) ?_); intro v' p' e'; cases p'; (try replace e' := pow32 e'); (try replace e' := pow64 e'))) | (with_reducible ((with_reducible show wpAny _ _ (binaryOp .Mod (Value.int _ _) (Value.int _ _)) _ _ _); (refine my_mod (by omega) ?_); intro r' e' r0' r1')) | (with_reducible ((with_reducible show wpAny _ _ (binaryOp .Mult (Value.int _ _) (Value.int _ _)) _ _ _); (refine my_mul (by omega) ?_))) | (with_reducible ((with_reducible show wpAny _ _ (binaryOp .FloorDiv (Value.int _ _) (Value.int _ _)) _ _ _); (refine my_fdiv (by omega) (by omega) ?_); intro q' e' b')) | (with_reducible ((with_reducible show wpAny _ _ (binaryOp .BitXor (Value.int _ _) (Value.int 1 _)) _ _ _); (refine my_xor ?_); intro x' e')) | (with_reducible ((with_reducible show wpAny _ _ (call (Value.ref 137) _) _ _ _); k_dflt (refine' record_call ?_ (by exact ⟨by k_asm, by k_asm, by k_asm, by k_asm, by k_asm, by first | exact rfl | (first | with_reducible assumption | assumption), by (simp only [depth_deeper, depth_in1, ktrTop]; omega), by (simp only [units_deeper, units_in1, ktrTop]; omega)⟩) (by repeat (first | with_reducible assumption | exact List.Mem.head _ | refine memS ?_)) ?_; · rfl); intro t' h' tk' F' N'; (try k_sweep))) | (with_reducible ((with_reducible show wpAny _ _ (call (Value.ref 130) _) _ _ _); k_dflt (refine low_call (by omega) (by exact ⟨by k_asm, by k_asm, by k_asm, by k_asm, by k_asm, by first | exact rfl | (first | with_reducible assumption | assumption), by (simp only [depth_deeper, depth_in1, ktrTop]; omega), by (simp only [units_deeper, units_in1, ktrTop]; omega)⟩) ?_); intro t' h' tk' F' N'; (try k_sweep))) | (with_reducible ((with_reducible show wpAny _ _ (call (Value.ref 151) _) _ _ _); k_dflt (refine back_call (by omega) (by omega) (by omega) (by omega) (by exact ⟨by k_asm, by k_asm, by k_asm, by k_asm, by k_asm, by first | exact rfl | (first | with_reducible assumption | assumption), by (simp only [depth_deeper, depth_in1, ktrTop]; omega), by (simp only [units_deeper, units_in1, ktrTop]; omega)⟩) ?_); intro V' P' D' uV' uP' c' h' tk' eV' eP0' eP1' F' N' l1'; (have l1' := allLt_of l1'); (simp only [AllLt] at l1'); (try k_sweep))) | (with_reducible ((with_reducible show wpAny _ _ (binaryOp .Add (Value.bytes _ _) (Value.bytes _ _)) _ _ _); ((first | (with_reducible refine my_badd ?_ ?_) | refine my_badd (a := [_, _, _, _]) ?_ ?_ | refine my_badd ?_ ?_); · (simp only [List.length_append, lowL_length, List.length_cons, List.length_nil]; omega)); intro t' tk')) | (with_reducible ((with_reducible show wpAny _ _ (subscriptTail _ (Expr.Slice none (some (Expr.Name ("cut" : Str) _)) none _) (Value.ref _) (Value.ref _)) _ _ _); k_dflt (refine' kmk_slice (by k_asm) (by k_asm) (by kmk_list) (by kmk_part) (by kmk_part) ?_ (by with_unfolding_all rfl) (by kmk_pure) (by (show _ ≤ 16777216; omega))); intro D' h' F' N' l1; (try k_lt l1); (try k_sweep))) | (with_reducible ((with_reducible show wpAny _ _ (compareOp .Eq (Value.ref _) (Value.ref _)) _ _ _); first | (first | refine eq_empty_yes (by k_asm) (by repeat (first | with_reducible assumption | exact List.Mem.head _ | refine memS ?_)) (by exact List.Mem.head _) (by ((try simp only [units_deeper, units_in1, ktrTop, cLine_is]); omega)) ?_ | refine eq_empty_no (by k_asm) (by repeat (first | with_reducible assumption | exact List.Mem.head _ | refine memS ?_)) (by exact List.Mem.head _) (by ((try simp only [units_deeper, units_in1, ktrTop, cLine_is]); omega)) ?_) | k_dflt (first | refine eq_empty_yes (by k_asm) (by repeat (first | with_reducible assumption | exact List.Mem.head _ | refine memS ?_)) (by exact List.Mem.head _) (by ((try simp only [units_deeper, units_in1, ktrTop, cLine_is]); omega)) ?_ | refine eq_empty_no (by k_asm) (by repeat (first | with_reducible assumption | exact List.Mem.head _ | refine memS ?_)) (by exact List.Mem.head _) (by ((try simp only [units_deeper, units_in1, ktrTop, cLine_is]); omega)) ?_))) | ((with_reducible show wpAny _ _ (call (Value.builtin "len") [Value.ref _]) _ _ _); k_dflt (refine my_lenL (by k_asm) (by repeat (first | with_reducible assumption | exact List.Mem.head _ | refine memS ?_)) (by omega) ?_); intro _ _))) | (k_unfold; (try dsimp only)) | (k_end; wrow_close) | walk1 | (dsimp only; walk1) | (leave1; (try dsimp only))))
            (refine ⟨_, _, rfl, ?_⟩; intro G k; refine Jn.un6 (k _ _ _ _ _ _ _ _ (offL _ [rd, L1 + 1 + 1, L1 + 1, 153]) (by k_asm) (by ((rename News _ _ _ _ => dN); refine cb_drop dN ?_; (repeat (refine List.forall_mem_cons.mpr ⟨by repeat (first | with_reducible assumption | exact List.Mem.head _ | refine memS ?_), ?_⟩)); (first | exact offL_sub | repeat (first | exact fun _ h => h | with_reducible assumption | refine subT ?_)))) (by repeat (first | exact nm_nil | refine nm_cons (by with_unfolding_all rfl) ?_))) ⟨offL_off (by repeat (first | exact fun _ h => h | with_reducible assumption | refine subT ?_)) S2.off, by exact offL_mem (by repeat (first | with_reducible assumption | exact List.Mem.head _ | refine memS ?_)) (by ((repeat (refine i1_cons (by ((try dsimp only); first | with_reducible assumption | (symm; with_reducible assumption) | exact Cm.nl1 (by with_reducible assumption) | exact Cm.ng1 (by with_reducible assumption) | exact Cm.nl2 (by with_reducible assumption) | exact Cm.ng2 (by with_reducible assumption) | exact Cm.nl3 (by with_reducible assumption) | exact Cm.ng3 (by with_reducible assumption) | exact Cm.nl4 (by with_reducible assumption) | exact Cm.ng4 (by with_reducible assumption) | exact Cm.nl5 (by with_reducible assumption) | exact Cm.ng5 (by with_reducible assumption) | exact Cm.nl6 (by with_reducible assumption) | exact Cm.ng6 (by with_reducible assumption) | exact Cm.nl7 (by with_reducible assumption) | exact Cm.ng7 (by with_reducible assumption) | exact Cm.nn1 (by with_reducible assumption) | exact Cm.nm1 (by with_reducible assumption) | exact Cm.nn2 (by with_reducible assumption) | exact Cm.nm2 (by with_reducible assumption) | exact Cm.nn3 (by with_reducible assumption) | exact Cm.nm3 (by with_reducible assumption) | exact Cm.nn4 (by with_reducible assumption) | exact Cm.nm4 (by with_reducible assumption) | exact Cm.nn5 (by with_reducible assumption) | exact Cm.nm5 (by with_reducible assumption) | omega)) ?_)); exact i1_nil)), recs_mono hj (offL_off (by repeat (first | exact fun _ h => h | with_reducible assumption | refine subT ?_)) S2.off).sub, by exact asked_push (offL_off (by repeat (first | exact fun _ h => h | with_reducible assumption | refine subT ?_)) S2.off).sub hq1 (by exact offL_mem (by repeat (first | with_reducible assumption | exact List.Mem.head _ | refine memS ?_)) (by ((repeat (refine i1_cons (by ((try dsimp only); first | with_reducible assumption | (symm; with_reducible assumption) | exact Cm.nl1 (by with_reducible assumption) | exact Cm.ng1 (by with_reducible assumption) | exact Cm.nl2 (by with_reducible assumption) | exact Cm.ng2 (by with_reducible assumption) | exact Cm.nl3 (by with_reducible assumption) | exact Cm.ng3 (by with_reducible assumption) | exact Cm.nl4 (by with_reducible assumption) | exact Cm.ng4 (by with_reducible assumption) | exact Cm.nl5 (by with_reducible assumption) | exact Cm.ng5 (by with_reducible assumption) | exact Cm.nl6 (by with_reducible assumption) | exact Cm.ng6 (by with_reducible assumption) | exact Cm.nl7 (by with_reducible assumption) | exact Cm.ng7 (by with_reducible assumption) | exact Cm.nn1 (by with_reducible assumption) | exact Cm.nm1 (by with_reducible assumption) | exact Cm.nn2 (by with_reducible assumption) | exact Cm.nm2 (by with_reducible assumption) | exact Cm.nn3 (by with_reducible assumption) | exact Cm.nm3 (by with_reducible assumption) | exact Cm.nn4 (by with_reducible assumption) | exact Cm.nm4 (by with_reducible assumption) | exact Cm.nn5 (by with_reducible assumption) | exact Cm.nm5 (by with_reducible assumption) | omega)) ?_)); exact i1_nil))) (o := cd) (by omega) cd0 (by omega), by simp, by exact .inr ⟨o, lg, f0', f1', f2', f3', f4', f5', rfl, hE2, hfit⟩⟩)
      intro h16 tk16 hJ
      with_reducible refine hJ _ ?_
      clear hJ Jc
      rintro m16 fd fvs aQ' cq' tsy' frs rq nz F16 N16 M16 S3 hfd hfr hq2 hq3 fo
      with_reducible refine fr_fold F16 M16 ?_
      clear F16
      intro mm F16
      clear M16 F15 N15
      have hna3 := off_one S3 (a := rd) (by simp)
      have hnd3 := off_one S3 (a := L1 + 1 + 1) (by simp)
      have hne3 := off_one S3 (a := L1 + 1) (by simp)
      have h1533 := off_one S3 (a := 153) (by simp)
      have hbf3 := S3.sub _ hbf
      dsimp only [List.take, List.drop]
      (repeat' (first | ((with_reducible refine Blk.into ?_); (first | (with_reducible ((with_reducible show wpAny _ _ (subscriptTail _ _ (Value.ref _) (Value.int _ _)) _ _ _); (k_dflt (refine my_item (by k_asm) (by repeat (first | with_reducible assumption | refine memS ?_)) (by decide) (by decide) (by with_unfolding_all rfl) ?_ (by with_unfolding_all rfl))); (try simp only [Int.reduceToNat, List.getElem_toArray, List.getElem_cons_zero, List.getElem_cons_succ]))) | (with_reducible ((with_reducible show wpAny _ _ (subscriptTail _ _ (Value.ref _) (Value.int _ _)) _ _ _); (k_dflt (refine item_tupleT (News.isTup (by k_asm) (by repeat (first | with_reducible assumption | refine memS ?_))) (by decide) (by decide) (by rfl) (by rfl) ?_)))) | (with_reducible ((with_reducible show wpAny _ _ (binaryOp .Pow (Value.int 2 _) (Value.int _ _)) _ _ _); (refine my_pow (by omega) (by omega) ?_); intro v' p' e'; cases p'; (try replace e' := pow32 e'); (try replace e' := pow64 e'))) | (with_reducible ((with_reducible show wpAny _ _ (binaryOp .Mod (Value.int _ _) (Value.int _ _)) _ _ _); (refine my_mod (by omega) ?_); intro r' e' r0' r1')) | (with_reducible ((with_reducible show wpAny _ _ (binaryOp .Mult (Value.int _ _) (Value.int _ _)) _ _ _); (refine my_mul (by omega) ?_))) | (with_reducible ((with_reducible show wpAny _ _ (binaryOp .FloorDiv (Value.int _ _) (Value.int _ _)) _ _ _); (refine my_fdiv (by omega) (by omega) ?_); intro q' e' b')) | (with_reducible ((with_reducible show wpAny _ _ (binaryOp .BitXor (Value.int _ _) (Value.int 1 _)) _ _ _); (refine my_xor ?_); intro x' e')) | (with_reducible ((with_reducible show wpAny _ _ (call (Value.ref 137) _) _ _ _); k_dflt (refine' record_call ?_ (by exact ⟨by k_asm, by k_asm, by k_asm, by k_asm, by k_asm, by first | exact rfl | (first | with_reducible assumption | assumption), by (simp only [depth_deeper, depth_in1, ktrTop]; omega), by (simp only [units_deeper, units_in1, ktrTop]; omega)⟩) (by repeat (first | with_reducible assumption | exact List.Mem.head _ | refine memS ?_)) ?_; · rfl); intro t' h' tk' F' N'; (try k_sweep))) | (with_reducible ((with_reducible show wpAny _ _ (call (Value.ref 130) _) _ _ _); k_dflt (refine low_call (by omega) (by exact ⟨by k_asm, by k_asm, by k_asm, by k_asm, by k_asm, by first | exact rfl | (first | with_reducible assumption | assumption), by (simp only [depth_deeper, depth_in1, ktrTop]; omega), by (simp only [units_deeper, units_in1, ktrTop]; omega)⟩) ?_); intro t' h' tk' F' N'; (try k_sweep))) | (with_reducible ((with_reducible show wpAny _ _ (call (Value.ref 151) _) _ _ _); k_dflt (refine back_call (by omega) (by omega) (by omega) (by omega) (by exact ⟨by k_asm, by k_asm, by k_asm, by k_asm, by k_asm, by first | exact rfl | (first | with_reducible assumption | assumption), by (simp only [depth_deeper, depth_in1, ktrTop]; omega), by (simp only [units_deeper, units_in1, ktrTop]; omega)⟩) ?_); intro V' P' D' uV' uP' c' h' tk' eV' eP0' eP1' F' N' l1'; (have l1' := allLt_of l1'); (simp only [AllLt] at l1'); (try k_sweep))) | (with_reducible ((with_reducible show wpAny _ _ (binaryOp .Add (Value.bytes _ _) (Value.bytes _ _)) _ _ _); ((first | (with_reducible refine my_badd ?_ ?_) | refine my_badd (a := [_, _, _, _]) ?_ ?_ | refine my_badd ?_ ?_); · (simp only [List.length_append, lowL_length, List.length_cons, List.length_nil]; omega)); intro t' tk')) | (with_reducible ((with_reducible show wpAny _ _ (subscriptTail _ (Expr.Slice none (some (Expr.Name ("cut" : Str) _)) none _) (Value.ref _) (Value.ref _)) _ _ _); k_dflt (refine' kmk_slice (by k_asm) (by k_asm) (by kmk_list) (by kmk_part) (by kmk_part) ?_ (by with_unfolding_all rfl) (by kmk_pure) (by (show _ ≤ 16777216; omega))); intro D' h' F' N' l1; (try k_lt l1); (try k_sweep))) | (with_reducible ((with_reducible show wpAny _ _ (compareOp .Eq (Value.ref _) (Value.ref _)) _ _ _); first | (first | refine eq_empty_yes (by k_asm) (by repeat (first | with_reducible assumption | exact List.Mem.head _ | refine memS ?_)) (by exact List.Mem.head _) (by ((try simp only [units_deeper, units_in1, ktrTop, cLine_is]); omega)) ?_ | refine eq_empty_no (by k_asm) (by repeat (first | with_reducible assumption | exact List.Mem.head _ | refine memS ?_)) (by exact List.Mem.head _) (by ((try simp only [units_deeper, units_in1, ktrTop, cLine_is]); omega)) ?_) | k_dflt (first | refine eq_empty_yes (by k_asm) (by repeat (first | with_reducible assumption | exact List.Mem.head _ | refine memS ?_)) (by exact List.Mem.head _) (by ((try simp only [units_deeper, units_in1, ktrTop, cLine_is]); omega)) ?_ | refine eq_empty_no (by k_asm) (by repeat (first | with_reducible assumption | exact List.Mem.head _ | refine memS ?_)) (by exact List.Mem.head _) (by ((try simp only [units_deeper, units_in1, ktrTop, cLine_is]); omega)) ?_))) | ((with_reducible show wpAny _ _ (call (Value.builtin "len") [Value.ref _]) _ _ _); k_dflt (refine my_lenL (by k_asm) (by repeat (first | with_reducible assumption | exact List.Mem.head _ | refine memS ?_)) (by omega) ?_); intro _ _))) | (k_unfold; (try dsimp only)) | (k_end; wrow_close) | walk1 | (dsimp only; walk1) | (leave1; (try dsimp only))))
      refine Blk.into ?_
      rename Fr _ _ _ _ => FW
      with_unfolding_all refine' For_turns FW ?h ?hs ?hE
      case hs => intro _; rfl
      case hE => first | passes_own | with_unfolding_all passes_own
      (repeat' (first | ((with_reducible refine Blk.into ?_); (first | (with_reducible ((with_reducible show wpAny _ _ (subscriptTail _ _ (Value.ref _) (Value.int _ _)) _ _ _); (k_dflt (refine my_item (by k_asm) (by repeat (first | with_reducible assumption | refine memS ?_)) (by decide) (by decide) (by with_unfolding_all rfl) ?_ (by with_unfolding_all rfl))); (try simp only [Int.reduceToNat, List.getElem_toArray, List.getElem_cons_zero, List.getElem_cons_succ]))) | (with_reducible ((with_reducible show wpAny _ _ (subscriptTail _ _ (Value.ref _) (Value.int _ _)) _ _ _); (k_dflt (refine item_tupleT (News.isTup (by k_asm) (by repeat (first | with_reducible assumption | refine memS ?_))) (by decide) (by decide) (by rfl) (by rfl) ?_)))) | (with_reducible ((with_reducible show wpAny _ _ (binaryOp .Pow (Value.int 2 _) (Value.int _ _)) _ _ _); (refine my_pow (by omega) (by omega) ?_); intro v' p' e'; cases p'; (try replace e' := pow32 e'); (try replace e' := pow64 e'))) | (with_reducible ((with_reducible show wpAny _ _ (binaryOp .Mod (Value.int _ _) (Value.int _ _)) _ _ _); (refine my_mod (by omega) ?_); intro r' e' r0' r1')) | (with_reducible ((with_reducible show wpAny _ _ (binaryOp .Mult (Value.int _ _) (Value.int _ _)) _ _ _); (refine my_mul (by omega) ?_))) | (with_reducible ((with_reducible show wpAny _ _ (binaryOp .FloorDiv (Value.int _ _) (Value.int _ _)) _ _ _); (refine my_fdiv (by omega) (by omega) ?_); intro q' e' b')) | (with_reducible ((with_reducible show wpAny _ _ (binaryOp .BitXor (Value.int _ _) (Value.int 1 _)) _ _ _); (refine my_xor ?_); intro x' e')) | (with_reducible ((with_reducible show wpAny _ _ (call (Value.ref 137) _) _ _ _); k_dflt (refine' record_call ?_ (by exact ⟨by k_asm, by k_asm, by k_asm, by k_asm, by k_asm, by first | exact rfl | (first | with_reducible assumption | assumption), by (simp only [depth_deeper, depth_in1, ktrTop]; omega), by (simp only [units_deeper, units_in1, ktrTop]; omega)⟩) (by repeat (first | with_reducible assumption | exact List.Mem.head _ | refine memS ?_)) ?_; · rfl); intro t' h' tk' F' N'; (try k_sweep))) | (with_reducible ((with_reducible show wpAny _ _ (call (Value.ref 130) _) _ _ _); k_dflt (refine low_call (by omega) (by exact ⟨by k_asm, by k_asm, by k_asm, by k_asm, by k_asm, by first | exact rfl | (first | with_reducible assumption | assumption), by (simp only [depth_deeper, depth_in1, ktrTop]; omega), by (simp only [units_deeper, units_in1, ktrTop]; omega)⟩) ?_); intro t' h' tk' F' N'; (try k_sweep))) | (with_reducible ((with_reducible show wpAny _ _ (call (Value.ref 151) _) _ _ _); k_dflt (refine back_call (by omega) (by omega) (by omega) (by omega) (by exact ⟨by k_asm, by k_asm, by k_asm, by k_asm, by k_asm, by first | exact rfl | (first | with_reducible assumption | assumption), by (simp only [depth_deeper, depth_in1, ktrTop]; omega), by (simp only [units_deeper, units_in1, ktrTop]; omega)⟩) ?_); intro V' P' D' uV' uP' c' h' tk' eV' eP0' eP1' F' N' l1'; (have l1' := allLt_of l1'); (simp only [AllLt] at l1'); (try k_sweep))) | (with_reducible ((with_reducible show wpAny _ _ (binaryOp .Add (Value.bytes _ _) (Value.bytes _ _)) _ _ _); ((first | (with_reducible refine my_badd ?_ ?_) | refine my_badd (a := [_, _, _, _]) ?_ ?_ | refine my_badd ?_ ?_); · (simp only [List.length_append, lowL_length, List.length_cons, List.length_nil]; omega)); intro t' tk')) | (with_reducible ((with_reducible show wpAny _ _ (subscriptTail _ (Expr.Slice none (some (Expr.Name ("cut" : Str) _)) none _) (Value.ref _) (Value.ref _)) _ _ _); k_dflt (refine' kmk_slice (by k_asm) (by k_asm) (by kmk_list) (by kmk_part) (by kmk_part) ?_ (by with_unfolding_all rfl) (by kmk_pure) (by (show _ ≤ 16777216; omega))); intro D' h' F' N' l1; (try k_lt l1); (try k_sweep))) | (with_reducible ((with_reducible show wpAny _ _ (compareOp .Eq (Value.ref _) (Value.ref _)) _ _ _); first | (first | refine eq_empty_yes (by k_asm) (by repeat (first | with_reducible assumption | exact List.Mem.head _ | refine memS ?_)) (by exact List.Mem.head _) (by ((try simp only [units_deeper, units_in1, ktrTop, cLine_is]); omega)) ?_ | refine eq_empty_no (by k_asm) (by repeat (first | with_reducible assumption | exact List.Mem.head _ | refine memS ?_)) (by exact List.Mem.head _) (by ((try simp only [units_deeper, units_in1, ktrTop, cLine_is]); omega)) ?_) | k_dflt (first | refine eq_empty_yes (by k_asm) (by repeat (first | with_reducible assumption | exact List.Mem.head _ | refine memS ?_)) (by exact List.Mem.head _) (by ((try simp only [units_deeper, units_in1, ktrTop, cLine_is]); omega)) ?_ | refine eq_empty_no (by k_asm) (by repeat (first | with_reducible assumption | exact List.Mem.head _ | refine memS ?_)) (by exact List.Mem.head _) (by ((try simp only [units_deeper, units_in1, ktrTop, cLine_is]); omega)) ?_))) | ((with_reducible show wpAny _ _ (call (Value.builtin "len") [Value.ref _]) _ _ _); k_dflt (refine my_lenL (by k_asm) (by repeat (first | with_reducible assumption | exact List.Mem.head _ | refine memS ?_)) (by omega) ?_); intro _ _))) | (k_unfold; (try dsimp only)) | (k_end; wrow_close) | walk1 | (dsimp only; walk1) | (leave1; (try dsimp only))))
      refine Blk.into ?_
      rename Fr _ _ _ _ => FW
      rename News _ _ _ _ => NW
      rcases fo with ⟨hfe, hE9⟩ | ⟨o, lg, f0', f1', f2', f3', f4', f5', hfe, hE9, hfit⟩
      · rw [hfe] at hfr
        have := recs_none hfr
        subst this
        refine' list_turns rfl FW NW (c := 0) (vs := #[]) ?hm1 (fun (i : Nat) m₁ n₁ => n₁ = ((rd, listOf aQ' cq') :: (L1 + 1 + 1, oc') :: (L1 + 1, ol') :: (153, tabObj tb) :: nz) ∧ NmAre m₁ [("c", .ref cc), ("bits", .int bi tbi), ("size", .int z tz), ("end", .int e te), ("laid", .ref la), ("row", .ref rw), ("before", .ref bf), ("says", .str (Str.ofString "bad") tsy'), ("due", .ref bf), ("reads", .ref rd)]) ?h01 ?hJ1 ?turn1 ?done1
        case hm1 => exact memS (memS (memS (memS hfd)))
        case h01 => exact ⟨rfl, by repeat (first | exact nm_nil | refine nm_cons (by with_unfolding_all rfl) ?_)⟩
        case hJ1 =>
          rintro i m₁ n₁ ⟨rfl, _⟩
          exact memS (memS (memS (memS hfd)))
        case turn1 =>
          intro I i v m₁ n₁ h₁ tk₁ it hi
          exact absurd hi (Nat.not_lt_zero _)
        case done1 =>
          rintro h' tk m₁ n₁ ⟨rfl, Mx⟩ Fx Nx
          clear FW NW
          with_reducible refine fr_fold Fx Mx ?_
          clear Fx
          intro mm Fx
          (repeat' (first | ((with_reducible refine Blk.into ?_); (first | (with_reducible ((with_reducible show wpAny _ _ (subscriptTail _ _ (Value.ref _) (Value.int _ _)) _ _ _); (k_dflt (refine my_item (by k_asm) (by repeat (first | with_reducible assumption | refine memS ?_)) (by decide) (by decide) (by with_unfolding_all rfl) ?_ (by with_unfolding_all rfl))); (try simp only [Int.reduceToNat, List.getElem_toArray, List.getElem_cons_zero, List.getElem_cons_succ]))) | (with_reducible ((with_reducible show wpAny _ _ (subscriptTail _ _ (Value.ref _) (Value.int _ _)) _ _ _); (k_dflt (refine item_tupleT (News.isTup (by k_asm) (by repeat (first | with_reducible assumption | refine memS ?_))) (by decide) (by decide) (by rfl) (by rfl) ?_)))) | (with_reducible ((with_reducible show wpAny _ _ (binaryOp .Pow (Value.int 2 _) (Value.int _ _)) _ _ _); (refine my_pow (by omega) (by omega) ?_); intro v' p' e'; cases p'; (try replace e' := pow32 e'); (try replace e' := pow64 e'))) | (with_reducible ((with_reducible show wpAny _ _ (binaryOp .Mod (Value.int _ _) (Value.int _ _)) _ _ _); (refine my_mod (by omega) ?_); intro r' e' r0' r1')) | (with_reducible ((with_reducible show wpAny _ _ (binaryOp .Mult (Value.int _ _) (Value.int _ _)) _ _ _); (refine my_mul (by omega) ?_))) | (with_reducible ((with_reducible show wpAny _ _ (binaryOp .FloorDiv (Value.int _ _) (Value.int _ _)) _ _ _); (refine my_fdiv (by omega) (by omega) ?_); intro q' e' b')) | (with_reducible ((with_reducible show wpAny _ _ (binaryOp .BitXor (Value.int _ _) (Value.int 1 _)) _ _ _); (refine my_xor ?_); intro x' e')) | (with_reducible ((with_reducible show wpAny _ _ (call (Value.ref 137) _) _ _ _); k_dflt (refine' record_call ?_ (by exact ⟨by k_asm, by k_asm, by k_asm, by k_asm, by k_asm, by first | exact rfl | (first | with_reducible assumption | assumption), by (simp only [depth_deeper, depth_in1, ktrTop]; omega), by (simp only [units_deeper, units_in1, ktrTop]; omega)⟩) (by repeat (first | with_reducible assumption | exact List.Mem.head _ | refine memS ?_)) ?_; · rfl); intro t' h' tk' F' N'; (try k_sweep))) | (with_reducible ((with_reducible show wpAny _ _ (call (Value.ref 130) _) _ _ _); k_dflt (refine low_call (by omega) (by exact ⟨by k_asm, by k_asm, by k_asm, by k_asm, by k_asm, by first | exact rfl | (first | with_reducible assumption | assumption), by (simp only [depth_deeper, depth_in1, ktrTop]; omega), by (simp only [units_deeper, units_in1, ktrTop]; omega)⟩) ?_); intro t' h' tk' F' N'; (try k_sweep))) | (with_reducible ((with_reducible show wpAny _ _ (call (Value.ref 151) _) _ _ _); k_dflt (refine back_call (by omega) (by omega) (by omega) (by omega) (by exact ⟨by k_asm, by k_asm, by k_asm, by k_asm, by k_asm, by first | exact rfl | (first | with_reducible assumption | assumption), by (simp only [depth_deeper, depth_in1, ktrTop]; omega), by (simp only [units_deeper, units_in1, ktrTop]; omega)⟩) ?_); intro V' P' D' uV' uP' c' h' tk' eV' eP0' eP1' F' N' l1'; (have l1' := allLt_of l1'); (simp only [AllLt] at l1'); (try k_sweep))) | (with_reducible ((with_reducible show wpAny _ _ (binaryOp .Add (Value.bytes _ _) (Value.bytes _ _)) _ _ _); ((first | (with_reducible refine my_badd ?_ ?_) | refine my_badd (a := [_, _, _, _]) ?_ ?_ | refine my_badd ?_ ?_); · (simp only [List.length_append, lowL_length, List.length_cons, List.length_nil]; omega)); intro t' tk')) | (with_reducible ((with_reducible show wpAny _ _ (subscriptTail _ (Expr.Slice none (some (Expr.Name ("cut" : Str) _)) none _) (Value.ref _) (Value.ref _)) _ _ _); k_dflt (refine' kmk_slice (by k_asm) (by k_asm) (by kmk_list) (by kmk_part) (by kmk_part) ?_ (by with_unfolding_all rfl) (by kmk_pure) (by (show _ ≤ 16777216; omega))); intro D' h' F' N' l1; (try k_lt l1); (try k_sweep))) | (with_reducible ((with_reducible show wpAny _ _ (compareOp .Eq (Value.ref _) (Value.ref _)) _ _ _); first | (first | refine eq_empty_yes (by k_asm) (by repeat (first | with_reducible assumption | exact List.Mem.head _ | refine memS ?_)) (by exact List.Mem.head _) (by ((try simp only [units_deeper, units_in1, ktrTop, cLine_is]); omega)) ?_ | refine eq_empty_no (by k_asm) (by repeat (first | with_reducible assumption | exact List.Mem.head _ | refine memS ?_)) (by exact List.Mem.head _) (by ((try simp only [units_deeper, units_in1, ktrTop, cLine_is]); omega)) ?_) | k_dflt (first | refine eq_empty_yes (by k_asm) (by repeat (first | with_reducible assumption | exact List.Mem.head _ | refine memS ?_)) (by exact List.Mem.head _) (by ((try simp only [units_deeper, units_in1, ktrTop, cLine_is]); omega)) ?_ | refine eq_empty_no (by k_asm) (by repeat (first | with_reducible assumption | exact List.Mem.head _ | refine memS ?_)) (by exact List.Mem.head _) (by ((try simp only [units_deeper, units_in1, ktrTop, cLine_is]); omega)) ?_))) | ((with_reducible show wpAny _ _ (call (Value.builtin "len") [Value.ref _]) _ _ _); k_dflt (refine my_lenL (by k_asm) (by repeat (first | with_reducible assumption | exact List.Mem.head _ | refine memS ?_)) (by omega) ?_); intro _ _))) | (k_unfold; (try dsimp only)) | (k_end; wrow_close) | walk1 | (dsimp only; walk1) | (leave1; (try dsimp only))))
          (refine ⟨_, _, rfl, ?_⟩; intro G k; refine Jn.un6 (k _ bf _ _ _ _ _ _ _ nz (by k_asm) (by k_asm) (by repeat (first | exact nm_nil | refine nm_cons (by with_unfolding_all rfl) ?_))) ⟨S3, hbf3, hq2, hq3, l6, ?_⟩)
          exact .inr (.inl ⟨hE9, rfl, rfl⟩)
      · rw [hfe] at hfr
        obtain ⟨a, b, tw, tz', c, c', u0, u1, u2, u3, u4, u5, rfl, hm, hm2⟩ := recs_one hfr
        refine' list_turns rfl FW NW (c := 1) (vs := #[.ref a]) ?hm2 (fun (i : Nat) m₁ n₁ => (i = 0 ∧ n₁ = ((rd, listOf aQ' cq') :: (L1 + 1 + 1, oc') :: (L1 + 1, ol') :: (153, tabObj tb) :: nz) ∧ NmAre m₁ [("c", .ref cc), ("bits", .int bi tbi), ("size", .int z tz), ("end", .int e te), ("laid", .ref la), ("row", .ref rw), ("before", .ref bf), ("says", .str (Str.ofString "bad") tsy'), ("due", .ref bf), ("reads", .ref rd)]) ∨ (i = 1 ∧ ∃ (du : Addr) (dA : Array Value) (cdu : Nat) (sy : Str) (tsy : Tok) (nz' : List (Addr × Obj)), n₁ = (rd, listOf aQ' cq') :: (L1 + 1 + 1, oc') :: (L1 + 1, ol') :: (153, tabObj tb) :: nz' ∧
          NmAre m₁ [("c", .ref cc), ("bits", .int bi tbi), ("size", .int z tz), ("end", .int e te), ("laid", .ref la), ("row", .ref rw), ("before", .ref bf), ("says", .str sy tsy), ("due", .ref du), ("reads", .ref rd)] ∧ Off nz' nz [rd, L1 + 1 + 1, L1 + 1, 153] ∧ (du, listOf dA cdu) ∈ nz' ∧ @LT.lt Nat instLTNat rw du ∧ Said (endsE (tapeB z ps) 9 e) sy rq (rowA #[80, 75, 5, 6] b8 65535 65535 65535 65535 4294967295 4294967295 c9 e x0 x1 x2 x3 x4 x5 x6 t9 x8 te) dA c9 b8)) ?h02 ?hJ2 ?turn2 ?done2
        case hm2 => exact memS (memS (memS (memS hfd)))
        case h02 => exact .inl ⟨rfl, rfl, by repeat (first | exact nm_nil | refine nm_cons (by with_unfolding_all rfl) ?_)⟩
        case hJ2 =>
          rintro i m₁ n₁ (⟨_, rfl, _⟩ | ⟨_, du, dA, cdu, sy, tsy, nz', rfl, _, S4, _⟩)
          · exact memS (memS (memS (memS hfd)))
          · exact memS (memS (memS (memS (S4.sub _ hfd))))
        case turn2 =>
          rintro I i v m₁ n₁ h₁ tk₁ it hi hv (⟨rfl, rfl, Mx⟩ | ⟨rfl, _⟩) hoff Fx Nx
          · clear FW NW
            with_reducible refine fr_fold Fx Mx ?_
            clear Fx
            intro mm Fx
            have ev : v = .ref a := (Option.some.inj hv).symm
            subst ev
            (repeat' (first | ((with_reducible refine Blk.into ?_); (first | (with_reducible ((with_reducible show wpAny _ _ (subscriptTail _ _ (Value.ref _) (Value.int _ _)) _ _ _); (k_dflt (refine my_item (by k_asm) (by repeat (first | with_reducible assumption | refine memS ?_)) (by decide) (by decide) (by with_unfolding_all rfl) ?_ (by with_unfolding_all rfl))); (try simp only [Int.reduceToNat, List.getElem_toArray, List.getElem_cons_zero, List.getElem_cons_succ]))) | (with_reducible ((with_reducible show wpAny _ _ (subscriptTail _ _ (Value.ref _) (Value.int _ _)) _ _ _); (k_dflt (refine item_tupleT (News.isTup (by k_asm) (by repeat (first | with_reducible assumption | refine memS ?_))) (by decide) (by decide) (by rfl) (by rfl) ?_)))) | (with_reducible ((with_reducible show wpAny _ _ (binaryOp .Pow (Value.int 2 _) (Value.int _ _)) _ _ _); (refine my_pow (by omega) (by omega) ?_); intro v' p' e'; cases p'; (try replace e' := pow32 e'); (try replace e' := pow64 e'))) | (with_reducible ((with_reducible show wpAny _ _ (binaryOp .Mod (Value.int _ _) (Value.int _ _)) _ _ _); (refine my_mod (by omega) ?_); intro r' e' r0' r1')) | (with_reducible ((with_reducible show wpAny _ _ (binaryOp .Mult (Value.int _ _) (Value.int _ _)) _ _ _); (refine my_mul (by omega) ?_))) | (with_reducible ((with_reducible show wpAny _ _ (binaryOp .FloorDiv (Value.int _ _) (Value.int _ _)) _ _ _); (refine my_fdiv (by omega) (by omega) ?_); intro q' e' b')) | (with_reducible ((with_reducible show wpAny _ _ (binaryOp .BitXor (Value.int _ _) (Value.int 1 _)) _ _ _); (refine my_xor ?_); intro x' e')) | (with_reducible ((with_reducible show wpAny _ _ (call (Value.ref 137) _) _ _ _); k_dflt (refine' record_call ?_ (by exact ⟨by k_asm, by k_asm, by k_asm, by k_asm, by k_asm, by first | exact rfl | (first | with_reducible assumption | assumption), by (simp only [depth_deeper, depth_in1, ktrTop]; omega), by (simp only [units_deeper, units_in1, ktrTop]; omega)⟩) (by repeat (first | with_reducible assumption | exact List.Mem.head _ | refine memS ?_)) ?_; · rfl); intro t' h' tk' F' N'; (try k_sweep))) | (with_reducible ((with_reducible show wpAny _ _ (call (Value.ref 130) _) _ _ _); k_dflt (refine low_call (by omega) (by exact ⟨by k_asm, by k_asm, by k_asm, by k_asm, by k_asm, by first | exact rfl | (first | with_reducible assumption | assumption), by (simp only [depth_deeper, depth_in1, ktrTop]; omega), by (simp only [units_deeper, units_in1, ktrTop]; omega)⟩) ?_); intro t' h' tk' F' N'; (try k_sweep))) | (with_reducible ((with_reducible show wpAny _ _ (call (Value.ref 151) _) _ _ _); k_dflt (refine back_call (by omega) (by omega) (by omega) (by omega) (by exact ⟨by k_asm, by k_asm, by k_asm, by k_asm, by k_asm, by first | exact rfl | (first | with_reducible assumption | assumption), by (simp only [depth_deeper, depth_in1, ktrTop]; omega), by (simp only [units_deeper, units_in1, ktrTop]; omega)⟩) ?_); intro V' P' D' uV' uP' c' h' tk' eV' eP0' eP1' F' N' l1'; (have l1' := allLt_of l1'); (simp only [AllLt] at l1'); (try k_sweep))) | (with_reducible ((with_reducible show wpAny _ _ (binaryOp .Add (Value.bytes _ _) (Value.bytes _ _)) _ _ _); ((first | (with_reducible refine my_badd ?_ ?_) | refine my_badd (a := [_, _, _, _]) ?_ ?_ | refine my_badd ?_ ?_); · (simp only [List.length_append, lowL_length, List.length_cons, List.length_nil]; omega)); intro t' tk')) | (with_reducible ((with_reducible show wpAny _ _ (subscriptTail _ (Expr.Slice none (some (Expr.Name ("cut" : Str) _)) none _) (Value.ref _) (Value.ref _)) _ _ _); k_dflt (refine' kmk_slice (by k_asm) (by k_asm) (by kmk_list) (by kmk_part) (by kmk_part) ?_ (by with_unfolding_all rfl) (by kmk_pure) (by (show _ ≤ 16777216; omega))); intro D' h' F' N' l1; (try k_lt l1); (try k_sweep))) | (with_reducible ((with_reducible show wpAny _ _ (compareOp .Eq (Value.ref _) (Value.ref _)) _ _ _); first | (first | refine eq_empty_yes (by k_asm) (by repeat (first | with_reducible assumption | exact List.Mem.head _ | refine memS ?_)) (by exact List.Mem.head _) (by ((try simp only [units_deeper, units_in1, ktrTop, cLine_is]); omega)) ?_ | refine eq_empty_no (by k_asm) (by repeat (first | with_reducible assumption | exact List.Mem.head _ | refine memS ?_)) (by exact List.Mem.head _) (by ((try simp only [units_deeper, units_in1, ktrTop, cLine_is]); omega)) ?_) | k_dflt (first | refine eq_empty_yes (by k_asm) (by repeat (first | with_reducible assumption | exact List.Mem.head _ | refine memS ?_)) (by exact List.Mem.head _) (by ((try simp only [units_deeper, units_in1, ktrTop, cLine_is]); omega)) ?_ | refine eq_empty_no (by k_asm) (by repeat (first | with_reducible assumption | exact List.Mem.head _ | refine memS ?_)) (by exact List.Mem.head _) (by ((try simp only [units_deeper, units_in1, ktrTop, cLine_is]); omega)) ?_))) | ((with_reducible show wpAny _ _ (call (Value.builtin "len") [Value.ref _]) _ _ _); k_dflt (refine my_lenL (by k_asm) (by repeat (first | with_reducible assumption | exact List.Mem.head _ | refine memS ?_)) (by omega) ?_); intro _ _))) | (k_unfold; (try dsimp only)) | (k_end; wrow_close) | walk1 | (dsimp only; walk1) | (leave1; (try dsimp only))))
            · refine ⟨_, _, _, (rd, listOf aQ' cq') :: (L1 + 1 + 1, oc') :: (L1 + 1, ol') :: (153, tabObj tb) :: offL _ [I, rd, L1 + 1 + 1, L1 + 1, 153], rfl, by k_asm, by ((rename News _ _ _ _ => dN); refine cb_drop dN ?_; (repeat (refine List.forall_mem_cons.mpr ⟨by repeat (first | with_reducible assumption | exact List.Mem.head _ | refine memS ?_), ?_⟩)); (first | exact offL_sub | repeat (first | exact fun _ h => h | with_reducible assumption | refine subT ?_))), off_turnI hoff, .inr ⟨by first | exact True.intro | rfl, _, _, _, _, _, offL _ [I, rd, L1 + 1 + 1, L1 + 1, 153], rfl, by repeat (first | exact nm_nil | refine nm_cons (by with_unfolding_all rfl) ?_), off_turn hoff (by repeat (first | exact fun _ h => h | with_reducible assumption | refine subT ?_)) S3.off, by exact offL_mem (by repeat (first | with_reducible assumption | exact List.Mem.head _ | refine memS ?_)) (by ((repeat (refine i1_cons (by ((try dsimp only); first | with_reducible assumption | (symm; with_reducible assumption) | exact Cm.nl1 (by with_reducible assumption) | exact Cm.ng1 (by with_reducible assumption) | exact Cm.nl2 (by with_reducible assumption) | exact Cm.ng2 (by with_reducible assumption) | exact Cm.nl3 (by with_reducible assumption) | exact Cm.ng3 (by with_reducible assumption) | exact Cm.nl4 (by with_reducible assumption) | exact Cm.ng4 (by with_reducible assumption) | exact Cm.nl5 (by with_reducible assumption) | exact Cm.ng5 (by with_reducible assumption) | exact Cm.nl6 (by with_reducible assumption) | exact Cm.ng6 (by with_reducible assumption) | exact Cm.nl7 (by with_reducible assumption) | exact Cm.ng7 (by with_reducible assumption) | exact Cm.nn1 (by with_reducible assumption) | exact Cm.nm1 (by with_reducible assumption) | exact Cm.nn2 (by with_reducible assumption) | exact Cm.nm2 (by with_reducible assumption) | exact Cm.nn3 (by with_reducible assumption) | exact Cm.nm3 (by with_reducible assumption) | exact Cm.nn4 (by with_reducible assumption) | exact Cm.nm4 (by with_reducible assumption) | exact Cm.nn5 (by with_reducible assumption) | exact Cm.nm5 (by with_reducible assumption) | omega)) ?_)); exact i1_nil)), by omega, ?_⟩⟩
              exact said_yes hE9 hfit (by assumption) (by assumption)
            · refine ⟨_, _, _, _, rfl, by k_asm, by k_asm, hoff, .inr ⟨by first | exact True.intro | rfl, bf, _, _, _, _, nz, rfl, by repeat (first | exact nm_nil | refine nm_cons (by with_unfolding_all rfl) ?_), ⟨fun _ h => h, S3.off⟩, hbf3, l6, ?_⟩⟩
              exact .inr (.inl ⟨hE9.trans (fin_no hfit (.inr (by assumption))), rfl, rfl⟩)
            · refine ⟨_, _, _, _, rfl, by k_asm, by k_asm, hoff, .inr ⟨by first | exact True.intro | rfl, bf, _, _, _, _, nz, rfl, by repeat (first | exact nm_nil | refine nm_cons (by with_unfolding_all rfl) ?_), ⟨fun _ h => h, S3.off⟩, hbf3, l6, ?_⟩⟩
              exact .inr (.inl ⟨hE9.trans (fin_no hfit (.inl (by assumption))), rfl, rfl⟩)
          · exact absurd hi (Nat.lt_irrefl 1)
        case done2 =>
          rintro h' tk m₁ n₁ (⟨h1, _⟩ | ⟨_, du, dA, cdu, sy, tsy, nz', rfl, Mx, S4, hdu, ldu, hsd⟩) Fx Nx
          · exact absurd h1 Nat.one_ne_zero
          · clear FW NW
            with_reducible refine fr_fold Fx Mx ?_
            clear Fx
            intro mm Fx
            (repeat' (first | ((with_reducible refine Blk.into ?_); (first | (with_reducible ((with_reducible show wpAny _ _ (subscriptTail _ _ (Value.ref _) (Value.int _ _)) _ _ _); (k_dflt (refine my_item (by k_asm) (by repeat (first | with_reducible assumption | refine memS ?_)) (by decide) (by decide) (by with_unfolding_all rfl) ?_ (by with_unfolding_all rfl))); (try simp only [Int.reduceToNat, List.getElem_toArray, List.getElem_cons_zero, List.getElem_cons_succ]))) | (with_reducible ((with_reducible show wpAny _ _ (subscriptTail _ _ (Value.ref _) (Value.int _ _)) _ _ _); (k_dflt (refine item_tupleT (News.isTup (by k_asm) (by repeat (first | with_reducible assumption | refine memS ?_))) (by decide) (by decide) (by rfl) (by rfl) ?_)))) | (with_reducible ((with_reducible show wpAny _ _ (binaryOp .Pow (Value.int 2 _) (Value.int _ _)) _ _ _); (refine my_pow (by omega) (by omega) ?_); intro v' p' e'; cases p'; (try replace e' := pow32 e'); (try replace e' := pow64 e'))) | (with_reducible ((with_reducible show wpAny _ _ (binaryOp .Mod (Value.int _ _) (Value.int _ _)) _ _ _); (refine my_mod (by omega) ?_); intro r' e' r0' r1')) | (with_reducible ((with_reducible show wpAny _ _ (binaryOp .Mult (Value.int _ _) (Value.int _ _)) _ _ _); (refine my_mul (by omega) ?_))) | (with_reducible ((with_reducible show wpAny _ _ (binaryOp .FloorDiv (Value.int _ _) (Value.int _ _)) _ _ _); (refine my_fdiv (by omega) (by omega) ?_); intro q' e' b')) | (with_reducible ((with_reducible show wpAny _ _ (binaryOp .BitXor (Value.int _ _) (Value.int 1 _)) _ _ _); (refine my_xor ?_); intro x' e')) | (with_reducible ((with_reducible show wpAny _ _ (call (Value.ref 137) _) _ _ _); k_dflt (refine' record_call ?_ (by exact ⟨by k_asm, by k_asm, by k_asm, by k_asm, by k_asm, by first | exact rfl | (first | with_reducible assumption | assumption), by (simp only [depth_deeper, depth_in1, ktrTop]; omega), by (simp only [units_deeper, units_in1, ktrTop]; omega)⟩) (by repeat (first | with_reducible assumption | exact List.Mem.head _ | refine memS ?_)) ?_; · rfl); intro t' h' tk' F' N'; (try k_sweep))) | (with_reducible ((with_reducible show wpAny _ _ (call (Value.ref 130) _) _ _ _); k_dflt (refine low_call (by omega) (by exact ⟨by k_asm, by k_asm, by k_asm, by k_asm, by k_asm, by first | exact rfl | (first | with_reducible assumption | assumption), by (simp only [depth_deeper, depth_in1, ktrTop]; omega), by (simp only [units_deeper, units_in1, ktrTop]; omega)⟩) ?_); intro t' h' tk' F' N'; (try k_sweep))) | (with_reducible ((with_reducible show wpAny _ _ (call (Value.ref 151) _) _ _ _); k_dflt (refine back_call (by omega) (by omega) (by omega) (by omega) (by exact ⟨by k_asm, by k_asm, by k_asm, by k_asm, by k_asm, by first | exact rfl | (first | with_reducible assumption | assumption), by (simp only [depth_deeper, depth_in1, ktrTop]; omega), by (simp only [units_deeper, units_in1, ktrTop]; omega)⟩) ?_); intro V' P' D' uV' uP' c' h' tk' eV' eP0' eP1' F' N' l1'; (have l1' := allLt_of l1'); (simp only [AllLt] at l1'); (try k_sweep))) | (with_reducible ((with_reducible show wpAny _ _ (binaryOp .Add (Value.bytes _ _) (Value.bytes _ _)) _ _ _); ((first | (with_reducible refine my_badd ?_ ?_) | refine my_badd (a := [_, _, _, _]) ?_ ?_ | refine my_badd ?_ ?_); · (simp only [List.length_append, lowL_length, List.length_cons, List.length_nil]; omega)); intro t' tk')) | (with_reducible ((with_reducible show wpAny _ _ (subscriptTail _ (Expr.Slice none (some (Expr.Name ("cut" : Str) _)) none _) (Value.ref _) (Value.ref _)) _ _ _); k_dflt (refine' kmk_slice (by k_asm) (by k_asm) (by kmk_list) (by kmk_part) (by kmk_part) ?_ (by with_unfolding_all rfl) (by kmk_pure) (by (show _ ≤ 16777216; omega))); intro D' h' F' N' l1; (try k_lt l1); (try k_sweep))) | (with_reducible ((with_reducible show wpAny _ _ (compareOp .Eq (Value.ref _) (Value.ref _)) _ _ _); first | (first | refine eq_empty_yes (by k_asm) (by repeat (first | with_reducible assumption | exact List.Mem.head _ | refine memS ?_)) (by exact List.Mem.head _) (by ((try simp only [units_deeper, units_in1, ktrTop, cLine_is]); omega)) ?_ | refine eq_empty_no (by k_asm) (by repeat (first | with_reducible assumption | exact List.Mem.head _ | refine memS ?_)) (by exact List.Mem.head _) (by ((try simp only [units_deeper, units_in1, ktrTop, cLine_is]); omega)) ?_) | k_dflt (first | refine eq_empty_yes (by k_asm) (by repeat (first | with_reducible assumption | exact List.Mem.head _ | refine memS ?_)) (by exact List.Mem.head _) (by ((try simp only [units_deeper, units_in1, ktrTop, cLine_is]); omega)) ?_ | refine eq_empty_no (by k_asm) (by repeat (first | with_reducible assumption | exact List.Mem.head _ | refine memS ?_)) (by exact List.Mem.head _) (by ((try simp only [units_deeper, units_in1, ktrTop, cLine_is]); omega)) ?_))) | ((with_reducible show wpAny _ _ (call (Value.builtin "len") [Value.ref _]) _ _ _); k_dflt (refine my_lenL (by k_asm) (by repeat (first | with_reducible assumption | exact List.Mem.head _ | refine memS ?_)) (by omega) ?_); intro _ _))) | (k_unfold; (try dsimp only)) | (k_end; wrow_close) | walk1 | (dsimp only; walk1) | (leave1; (try dsimp only))))
            (refine ⟨_, _, rfl, ?_⟩; intro G k; refine Jn.un6 (k _ du _ _ _ _ _ _ _ nz' (by k_asm) (by k_asm) (by repeat (first | exact nm_nil | refine nm_cons (by with_unfolding_all rfl) ?_))) ⟨⟨fun q hq => S4.sub _ (S3.sub _ hq), S4.off⟩, hdu, asked_mono S4.sub hq2, hq3, ldu, hsd⟩)
    · rw [if_neg (by omega)] at hq1
      have hlo' := hlo (by assumption)
      rw [if_neg (by assumption)] at hlo'
      (refine ⟨_, _, rfl, ?_⟩; intro G k; refine Jn.un6 (k _ bf _ _ _ _ _ _ _ ny (by k_asm) (by k_asm) (by repeat (first | exact nm_nil | refine nm_cons (by with_unfolding_all rfl) ?_))) ⟨⟨fun _ h => h, S2.off⟩, hbf, hq1, by simp, l6, ?_⟩)
      exact .inr (.inl ⟨sees_far (by assumption) hlo' ⟨cd0, cd1⟩ (by assumption) ⟨ds0, by assumption⟩ (by assumption), rfl, rfl⟩)
    · rw [if_neg (by omega)] at hq1
      have hlo' := hlo (by assumption)
      rw [if_neg (by assumption)] at hlo'
      (refine ⟨_, _, rfl, ?_⟩; intro G k; refine Jn.un6 (k _ bf _ _ _ _ _ _ _ ny (by k_asm) (by k_asm) (by repeat (first | exact nm_nil | refine nm_cons (by with_unfolding_all rfl) ?_))) ⟨⟨fun _ h => h, S2.off⟩, hbf, hq1, by simp, l6, ?_⟩)
      exact .inr (.inl ⟨sees_disk (by assumption) hlo' ⟨di0, di1⟩ ⟨ds0, ds1⟩ (.inr (by assumption)), rfl, rfl⟩)
    · rw [if_neg (by omega)] at hq1
      have hlo' := hlo (by assumption)
      rw [if_neg (by assumption)] at hlo'
      (refine ⟨_, _, rfl, ?_⟩; intro G k; refine Jn.un6 (k _ bf _ _ _ _ _ _ _ ny (by k_asm) (by k_asm) (by repeat (first | exact nm_nil | refine nm_cons (by with_unfolding_all rfl) ?_))) ⟨⟨fun _ h => h, S2.off⟩, hbf, hq1, by simp, l6, ?_⟩)
      exact .inr (.inl ⟨sees_disk (by assumption) hlo' ⟨di0, di1⟩ ⟨ds0, ds1⟩ (.inl (by assumption)), rfl, rfl⟩)
    · rw [if_neg (by omega)] at hq1
      have hlo' := hlo (by assumption)
      rw [if_pos (by assumption)] at hlo'
      (refine ⟨_, _, rfl, ?_⟩; intro G k; refine Jn.un6 (k _ bf _ _ _ _ _ _ _ ny (by k_asm) (by k_asm) (by repeat (first | exact nm_nil | refine nm_cons (by with_unfolding_all rfl) ?_))) ⟨⟨fun _ h => h, S2.off⟩, hbf, hq1, by simp, l6, ?_⟩)
      exact .inl ⟨sees_nosig (by assumption) hlo', rfl, rfl⟩
    · rw [if_pos (by omega)] at hq1
      (refine ⟨_, _, rfl, ?_⟩; intro G k; refine Jn.un6 (k _ bf _ _ _ _ _ _ _ ny (by k_asm) (by k_asm) (by repeat (first | exact nm_nil | refine nm_cons (by with_unfolding_all rfl) ?_))) ⟨⟨fun _ h => h, S2.off⟩, hbf, hq1, by simp, l6, ?_⟩)
      exact .inl ⟨sees_low (by omega), rfl, rfl⟩
  intro h17 tk17 hJ
  with_reducible refine hJ _ ?_
  clear hJ Jc
  rintro m17 du aQ' dA cq' cdu sy tsy' rq nz F17 N17 M17 S3 hdu hq2 hq3 ldu hsd
  with_reducible refine fr_fold F17 M17 ?_
  clear F17
  intro mm F17
  clear M17 F14 N14 hna hnd hne h153
  have hna3 := off_one S3 (a := rd) (by simp)
  have hnd3 := off_one S3 (a := L1 + 1 + 1) (by simp)
  have hne3 := off_one S3 (a := L1 + 1) (by simp)
  have h1533 := off_one S3 (a := 153) (by simp)
  have hcc3 := S3.sub _ hcc1
  have hrw3 := S3.sub _ hrw
  have hbf3 := S3.sub _ hbf
  have hla3 := S3.sub _ hla
  have hp3 := piecesAre_mono hp2 S3.sub
  have hql' : aQ'.size ≤ 3 := by
    have := asked_len hq2
    rw [Array.length_toList] at this
    omega
  let Jc : Heap → Prop := fun h' => ∀ G : Prop, (∀ (m' : Str → Option Value) (du rd : Addr) (cu : Int) (aQ dA : Array Value) (cq cdu : Nat) (sy : Str) (tsy tcu : Tok) (rq : List (Int × Int)) (nw : List (Addr × Obj)), Fr g L1 h' m' → News g L1 h' ((153, tabObj tb) :: nw) → NmAre m' [("bits", .int bi tbi), ("size", .int z tz), ("end", .int e te), ("laid", .ref la), ("row", .ref rw), ("says", .str sy tsy), ("due", .ref du), ("reads", .ref rd), ("cut", .int cu tcu)] → (Off nw nz [153]) → ((rd, listOf aQ cq) ∈ nw) → ((du, listOf dA cdu) ∈ nw) → (AskedAre z nw aQ.toList rq) → (rq.length ≤ 3) → (@LT.lt Nat instLTNat rw du) → (@LT.lt Nat instLTNat rw rd) → ((1 ≤ cu ∧ cu ≤ 9)) → (Said (endsE (tapeB z ps) cu e) sy rq (rowA #[80, 75, 5, 6] b8 65535 65535 65535 65535 4294967295 4294967295 c9 e x0 x1 x2 x3 x4 x5 x6 t9 x8 te) dA c9 b8) → G) → G
  with_reducible refine Jn.ckpt 2 Jc ?_ ?_
  · dsimp only [List.take, List.drop]
    k_fold
    (repeat' (first | ((with_reducible refine Blk.into ?_); (first | (with_reducible ((with_reducible show wpAny _ _ (subscriptTail _ _ (Value.ref _) (Value.int _ _)) _ _ _); (k_dflt (refine my_item (by k_asm) (by repeat (first | with_reducible assumption | refine memS ?_)) (by decide) (by decide) (by with_unfolding_all rfl) ?_ (by with_unfolding_all rfl))); (try simp only [Int.reduceToNat, List.getElem_toArray, List.getElem_cons_zero, List.getElem_cons_succ]))) | (with_reducible ((with_reducible show wpAny _ _ (subscriptTail _ _ (Value.ref _) (Value.int _ _)) _ _ _); (k_dflt (refine item_tupleT (News.isTup (by k_asm) (by repeat (first | with_reducible assumption | refine memS ?_))) (by decide) (by decide) (by rfl) (by rfl) ?_)))) | (with_reducible ((with_reducible show wpAny _ _ (binaryOp .Pow (Value.int 2 _) (Value.int _ _)) _ _ _); (refine my_pow (by omega) (by omega) ?_); intro v' p' e'; cases p'; (try replace e' := pow32 e'); (try replace e' := pow64 e'))) | (with_reducible ((with_reducible show wpAny _ _ (binaryOp .Mod (Value.int _ _) (Value.int _ _)) _ _ _); (refine my_mod (by omega) ?_); intro r' e' r0' r1')) | (with_reducible ((with_reducible show wpAny _ _ (binaryOp .Mult (Value.int _ _) (Value.int _ _)) _ _ _); (refine my_mul (by omega) ?_))) | (with_reducible ((with_reducible show wpAny _ _ (binaryOp .FloorDiv (Value.int _ _) (Value.int _ _)) _ _ _); (refine my_fdiv (by omega) (by omega) ?_); intro q' e' b')) | (with_reducible ((with_reducible show wpAny _ _ (binaryOp .BitXor (Value.int _ _) (Value.int 1 _)) _ _ _); (refine my_xor ?_); intro x' e')) | (with_reducible ((with_reducible show wpAny _ _ (call (Value.ref 137) _) _ _ _); k_dflt (refine' record_call ?_ (by exact ⟨by k_asm, by k_asm, by k_asm, by k_asm, by k_asm, by first | exact rfl | (first | with_reducible assumption | assumption), by (simp only [depth_deeper, depth_in1, ktrTop]; omega), by (simp only [units_deeper, units_in1, ktrTop]; omega)⟩) (by repeat (first | with_reducible assumption | exact List.Mem.head _ | refine memS ?_)) ?_; · rfl); intro t' h' tk' F' N'; (try k_sweep))) | (with_reducible ((with_reducible show wpAny _ _ (call (Value.ref 130) _) _ _ _); k_dflt (refine low_call (by omega) (by exact ⟨by k_asm, by k_asm, by k_asm, by k_asm, by k_asm, by first | exact rfl | (first | with_reducible assumption | assumption), by (simp only [depth_deeper, depth_in1, ktrTop]; omega), by (simp only [units_deeper, units_in1, ktrTop]; omega)⟩) ?_); intro t' h' tk' F' N'; (try k_sweep))) | (with_reducible ((with_reducible show wpAny _ _ (call (Value.ref 151) _) _ _ _); k_dflt (refine back_call (by omega) (by omega) (by omega) (by omega) (by exact ⟨by k_asm, by k_asm, by k_asm, by k_asm, by k_asm, by first | exact rfl | (first | with_reducible assumption | assumption), by (simp only [depth_deeper, depth_in1, ktrTop]; omega), by (simp only [units_deeper, units_in1, ktrTop]; omega)⟩) ?_); intro V' P' D' uV' uP' c' h' tk' eV' eP0' eP1' F' N' l1'; (have l1' := allLt_of l1'); (simp only [AllLt] at l1'); (try k_sweep))) | (with_reducible ((with_reducible show wpAny _ _ (binaryOp .Add (Value.bytes _ _) (Value.bytes _ _)) _ _ _); ((first | (with_reducible refine my_badd ?_ ?_) | refine my_badd (a := [_, _, _, _]) ?_ ?_ | refine my_badd ?_ ?_); · (simp only [List.length_append, lowL_length, List.length_cons, List.length_nil]; omega)); intro t' tk')) | (with_reducible ((with_reducible show wpAny _ _ (subscriptTail _ (Expr.Slice none (some (Expr.Name ("cut" : Str) _)) none _) (Value.ref _) (Value.ref _)) _ _ _); k_dflt (refine' kmk_slice (by k_asm) (by k_asm) (by kmk_list) (by kmk_part) (by kmk_part) ?_ (by with_unfolding_all rfl) (by kmk_pure) (by (show _ ≤ 16777216; omega))); intro D' h' F' N' l1; (try k_lt l1); (try k_sweep))) | (with_reducible ((with_reducible show wpAny _ _ (compareOp .Eq (Value.ref _) (Value.ref _)) _ _ _); first | (first | refine eq_empty_yes (by k_asm) (by repeat (first | with_reducible assumption | exact List.Mem.head _ | refine memS ?_)) (by exact List.Mem.head _) (by ((try simp only [units_deeper, units_in1, ktrTop, cLine_is]); omega)) ?_ | refine eq_empty_no (by k_asm) (by repeat (first | with_reducible assumption | exact List.Mem.head _ | refine memS ?_)) (by exact List.Mem.head _) (by ((try simp only [units_deeper, units_in1, ktrTop, cLine_is]); omega)) ?_) | k_dflt (first | refine eq_empty_yes (by k_asm) (by repeat (first | with_reducible assumption | exact List.Mem.head _ | refine memS ?_)) (by exact List.Mem.head _) (by ((try simp only [units_deeper, units_in1, ktrTop, cLine_is]); omega)) ?_ | refine eq_empty_no (by k_asm) (by repeat (first | with_reducible assumption | exact List.Mem.head _ | refine memS ?_)) (by exact List.Mem.head _) (by ((try simp only [units_deeper, units_in1, ktrTop, cLine_is]); omega)) ?_))) | ((with_reducible show wpAny _ _ (call (Value.builtin "len") [Value.ref _]) _ _ _); k_dflt (refine my_lenL (by k_asm) (by repeat (first | with_reducible assumption | exact List.Mem.head _ | refine memS ?_)) (by omega) ?_); intro _ _))) | (k_unfold; (try dsimp only)) | (k_end; wrow_close) | walk1 | (dsimp only; walk1) | (leave1; (try dsimp only))))
    · have hcl : 1 + c9 % 9 ≤ (rq.length : Int) := by
        have := asked_len hq2
        rw [Array.length_toList] at this
        omega
      (refine ⟨_, _, rfl, ?_⟩; intro G k; refine Jn.un9 (k _ bf _ _ _ _ _ _ _ _ _ (rq.take _) (offL _ [153]) (by k_asm) (by ((rename News _ _ _ _ => dN); refine cb_drop dN ?_; (repeat (refine List.forall_mem_cons.mpr ⟨by repeat (first | with_reducible assumption | exact List.Mem.head _ | refine memS ?_), ?_⟩)); (first | exact offL_sub | repeat (first | exact fun _ h => h | with_reducible assumption | refine subT ?_)))) (by repeat (first | exact nm_nil | refine nm_cons (by with_unfolding_all rfl) ?_))) ⟨offL_off (by repeat (first | exact fun _ h => h | with_reducible assumption | refine subT ?_)) (by ((repeat (refine ine_cons (by first | with_reducible assumption | ((rename @LT.lt Nat _ _ _ ∧ _ => hh); (repeat (replace hh := hh.2)); exact allLt_ne hh (Nat.le_refl _))) ?_)); exact ine_nil)), by exact offL_mem (by repeat (first | with_reducible assumption | exact List.Mem.head _ | refine memS ?_)) (by ((repeat (refine i1_cons (by ((try dsimp only); first | with_reducible assumption | (symm; with_reducible assumption) | exact Cm.nl1 (by with_reducible assumption) | exact Cm.ng1 (by with_reducible assumption) | exact Cm.nl2 (by with_reducible assumption) | exact Cm.ng2 (by with_reducible assumption) | exact Cm.nl3 (by with_reducible assumption) | exact Cm.ng3 (by with_reducible assumption) | exact Cm.nl4 (by with_reducible assumption) | exact Cm.ng4 (by with_reducible assumption) | exact Cm.nl5 (by with_reducible assumption) | exact Cm.ng5 (by with_reducible assumption) | exact Cm.nl6 (by with_reducible assumption) | exact Cm.ng6 (by with_reducible assumption) | exact Cm.nl7 (by with_reducible assumption) | exact Cm.ng7 (by with_reducible assumption) | exact Cm.nn1 (by with_reducible assumption) | exact Cm.nm1 (by with_reducible assumption) | exact Cm.nn2 (by with_reducible assumption) | exact Cm.nm2 (by with_reducible assumption) | exact Cm.nn3 (by with_reducible assumption) | exact Cm.nm3 (by with_reducible assumption) | exact Cm.nn4 (by with_reducible assumption) | exact Cm.nm4 (by with_reducible assumption) | exact Cm.nn5 (by with_reducible assumption) | exact Cm.nm5 (by with_reducible assumption) | omega)) ?_)); exact i1_nil)), by exact offL_mem (by repeat (first | with_reducible assumption | exact List.Mem.head _ | refine memS ?_)) (by ((repeat (refine i1_cons (by ((try dsimp only); first | with_reducible assumption | (symm; with_reducible assumption) | exact Cm.nl1 (by with_reducible assumption) | exact Cm.ng1 (by with_reducible assumption) | exact Cm.nl2 (by with_reducible assumption) | exact Cm.ng2 (by with_reducible assumption) | exact Cm.nl3 (by with_reducible assumption) | exact Cm.ng3 (by with_reducible assumption) | exact Cm.nl4 (by with_reducible assumption) | exact Cm.ng4 (by with_reducible assumption) | exact Cm.nl5 (by with_reducible assumption) | exact Cm.ng5 (by with_reducible assumption) | exact Cm.nl6 (by with_reducible assumption) | exact Cm.ng6 (by with_reducible assumption) | exact Cm.nl7 (by with_reducible assumption) | exact Cm.ng7 (by with_reducible assumption) | exact Cm.nn1 (by with_reducible assumption) | exact Cm.nm1 (by with_reducible assumption) | exact Cm.nn2 (by with_reducible assumption) | exact Cm.nm2 (by with_reducible assumption) | exact Cm.nn3 (by with_reducible assumption) | exact Cm.nm3 (by with_reducible assumption) | exact Cm.nn4 (by with_reducible assumption) | exact Cm.nm4 (by with_reducible assumption) | exact Cm.nn5 (by with_reducible assumption) | exact Cm.nm5 (by with_reducible assumption) | omega)) ?_)); exact i1_nil)), by exact asked_slice (offL_off (by repeat (first | exact fun _ h => h | with_reducible assumption | refine subT ?_)) (by ((repeat (refine ine_cons (by first | with_reducible assumption | ((rename @LT.lt Nat _ _ _ ∧ _ => hh); (repeat (replace hh := hh.2)); exact allLt_ne hh (Nat.le_refl _))) ?_)); exact ine_nil))).sub hq2 (by omega), ?_, by omega, by omega, by omega, ?_⟩)
      · rw [List.length_take]; omega
      · exact said_cut (by omega) hsd (by omega)
    · have hcl : ¬ 1 + c9 % 9 ≤ (rq.length : Int) := by
        have := asked_len hq2
        rw [Array.length_toList] at this
        omega
      (refine ⟨_, _, rfl, ?_⟩; intro G k; refine Jn.un9 (k _ du rd _ _ _ _ _ _ _ _ rq (offL _ [153]) (by k_asm) (by ((rename News _ _ _ _ => dN); refine cb_drop dN ?_; (repeat (refine List.forall_mem_cons.mpr ⟨by repeat (first | with_reducible assumption | exact List.Mem.head _ | refine memS ?_), ?_⟩)); (first | exact offL_sub | repeat (first | exact fun _ h => h | with_reducible assumption | refine subT ?_)))) (by repeat (first | exact nm_nil | refine nm_cons (by with_unfolding_all rfl) ?_))) ⟨offL_off (by repeat (first | exact fun _ h => h | with_reducible assumption | refine subT ?_)) (by ((repeat (refine ine_cons (by first | with_reducible assumption | ((rename @LT.lt Nat _ _ _ ∧ _ => hh); (repeat (replace hh := hh.2)); exact allLt_ne hh (Nat.le_refl _))) ?_)); exact ine_nil)), by exact offL_mem (by repeat (first | with_reducible assumption | exact List.Mem.head _ | refine memS ?_)) (by ((repeat (refine i1_cons (by ((try dsimp only); first | with_reducible assumption | (symm; with_reducible assumption) | exact Cm.nl1 (by with_reducible assumption) | exact Cm.ng1 (by with_reducible assumption) | exact Cm.nl2 (by with_reducible assumption) | exact Cm.ng2 (by with_reducible assumption) | exact Cm.nl3 (by with_reducible assumption) | exact Cm.ng3 (by with_reducible assumption) | exact Cm.nl4 (by with_reducible assumption) | exact Cm.ng4 (by with_reducible assumption) | exact Cm.nl5 (by with_reducible assumption) | exact Cm.ng5 (by with_reducible assumption) | exact Cm.nl6 (by with_reducible assumption) | exact Cm.ng6 (by with_reducible assumption) | exact Cm.nl7 (by with_reducible assumption) | exact Cm.ng7 (by with_reducible assumption) | exact Cm.nn1 (by with_reducible assumption) | exact Cm.nm1 (by with_reducible assumption) | exact Cm.nn2 (by with_reducible assumption) | exact Cm.nm2 (by with_reducible assumption) | exact Cm.nn3 (by with_reducible assumption) | exact Cm.nm3 (by with_reducible assumption) | exact Cm.nn4 (by with_reducible assumption) | exact Cm.nm4 (by with_reducible assumption) | exact Cm.nn5 (by with_reducible assumption) | exact Cm.nm5 (by with_reducible assumption) | omega)) ?_)); exact i1_nil)), by exact offL_mem (by repeat (first | with_reducible assumption | exact List.Mem.head _ | refine memS ?_)) (by ((repeat (refine i1_cons (by ((try dsimp only); first | with_reducible assumption | (symm; with_reducible assumption) | exact Cm.nl1 (by with_reducible assumption) | exact Cm.ng1 (by with_reducible assumption) | exact Cm.nl2 (by with_reducible assumption) | exact Cm.ng2 (by with_reducible assumption) | exact Cm.nl3 (by with_reducible assumption) | exact Cm.ng3 (by with_reducible assumption) | exact Cm.nl4 (by with_reducible assumption) | exact Cm.ng4 (by with_reducible assumption) | exact Cm.nl5 (by with_reducible assumption) | exact Cm.ng5 (by with_reducible assumption) | exact Cm.nl6 (by with_reducible assumption) | exact Cm.ng6 (by with_reducible assumption) | exact Cm.nl7 (by with_reducible assumption) | exact Cm.ng7 (by with_reducible assumption) | exact Cm.nn1 (by with_reducible assumption) | exact Cm.nm1 (by with_reducible assumption) | exact Cm.nn2 (by with_reducible assumption) | exact Cm.nm2 (by with_reducible assumption) | exact Cm.nn3 (by with_reducible assumption) | exact Cm.nm3 (by with_reducible assumption) | exact Cm.nn4 (by with_reducible assumption) | exact Cm.nm4 (by with_reducible assumption) | exact Cm.nn5 (by with_reducible assumption) | exact Cm.nm5 (by with_reducible assumption) | omega)) ?_)); exact i1_nil)), asked_mono (offL_off (by repeat (first | exact fun _ h => h | with_reducible assumption | refine subT ?_)) (by ((repeat (refine ine_cons (by first | with_reducible assumption | ((rename @LT.lt Nat _ _ _ ∧ _ => hh); (repeat (replace hh := hh.2)); exact allLt_ne hh (Nat.le_refl _))) ?_)); exact ine_nil))).sub hq2, hq3, by omega, by omega, by omega, ?_⟩)
      exact said_uncut (by omega) hsd (by omega)
  intro h18 tk18 hJ
  with_reducible refine hJ _ ?_
  clear hJ Jc
  rintro m18 du rd cu aQ dA cq cdu sy tsy tcu rq nw F18 N18 M18 S4 hrd4 hdu4 hq4 hq5 ldu lrd hcu hsd
  with_reducible refine fr_fold F18 M18 ?_
  clear F18
  intro mm F18
  clear M18 F17 N17 hna3 hnd3 hne3 h1533
  have h1534 := off_one S4 (a := 153) (by simp)
  have hrw4 := S4.sub _ hrw3
  have hla4 := S4.sub _ hla3
  have hp4 := piecesAre_mono hp3 S4.sub
  have hnews4 : ∀ q ∈ news, q ∈ nw := fun q hq => S4.sub _ (S3.sub _ (S2.sub _ (S1.sub _ hq)))
  let Jc : Heap → Prop := fun h' => ∀ G : Prop, (∀ (m' : Str → Option Value) (k1 k2 qa x dx fs fr : Addr) (td : Value → Obj) (S : List (Addr × Obj)) (cqa : Nat) (t0 : Tok), Fr g L1 h' m' → News g L1 h' ((153, tabObj (hitTb k1 k2)) :: (dx, td (.int 0 t0)) :: (S ++ (qa, listOf #[] cqa) :: nw)) → NmAre m' [("end", .int e te), ("row", .ref rw), ("says", .str sy tsy), ("due", .ref du), ("reads", .ref rd), ("asked", .ref qa), ("tape", .ref x)] → ((∀ q ∈ S, @Ne Nat q.1 dx ∧ (q ∈ old ∨ ∀ r ∈ (qa, listOf #[] cqa) :: nw, @Ne Nat q.1 r.1))) → ((∀ r ∈ (qa, listOf #[] cqa) :: nw, @Ne Nat r.1 dx)) → (@Ne Nat 153 dx) → (TabHit S k1 k2) → ((∀ q ∈ nw, @Ne Nat q.1 qa)) → (@LT.lt Nat instLTNat L1 qa) → (SeekK prog w p loose mean mg mb dx fs td S) → (ReadK prog w p loose mean mg mb dx qa fr td S z bi cu la aL cL ps) → (GetK prog w x dx fs "seek" td S) → (GetK prog w x dx fr "read" td S) → (FnK fs S) → (FnK fr S) → G) → G
  with_reducible refine Jn.ckpt 2 Jc ?_ ?_
  · dsimp only [List.take, List.drop]
    k_fold
    (repeat' (first | ((with_reducible refine Blk.into ?_); (first | (with_reducible ((with_reducible show wpAny _ _ (subscriptTail _ _ (Value.ref _) (Value.int _ _)) _ _ _); (k_dflt (refine my_item (by k_asm) (by repeat (first | with_reducible assumption | refine memS ?_)) (by decide) (by decide) (by with_unfolding_all rfl) ?_ (by with_unfolding_all rfl))); (try simp only [Int.reduceToNat, List.getElem_toArray, List.getElem_cons_zero, List.getElem_cons_succ]))) | (with_reducible ((with_reducible show wpAny _ _ (subscriptTail _ _ (Value.ref _) (Value.int _ _)) _ _ _); (k_dflt (refine item_tupleT (News.isTup (by k_asm) (by repeat (first | with_reducible assumption | refine memS ?_))) (by decide) (by decide) (by rfl) (by rfl) ?_)))) | (with_reducible ((with_reducible show wpAny _ _ (binaryOp .Pow (Value.int 2 _) (Value.int _ _)) _ _ _); (refine my_pow (by omega) (by omega) ?_); intro v' p' e'; cases p'; (try replace e' := pow32 e'); (try replace e' := pow64 e'))) | (with_reducible ((with_reducible show wpAny _ _ (binaryOp .Mod (Value.int _ _) (Value.int _ _)) _ _ _); (refine my_mod (by omega) ?_); intro r' e' r0' r1')) | (with_reducible ((with_reducible show wpAny _ _ (binaryOp .Mult (Value.int _ _) (Value.int _ _)) _ _ _); (refine my_mul (by omega) ?_))) | (with_reducible ((with_reducible show wpAny _ _ (binaryOp .FloorDiv (Value.int _ _) (Value.int _ _)) _ _ _); (refine my_fdiv (by omega) (by omega) ?_); intro q' e' b')) | (with_reducible ((with_reducible show wpAny _ _ (binaryOp .BitXor (Value.int _ _) (Value.int 1 _)) _ _ _); (refine my_xor ?_); intro x' e')) | (with_reducible ((with_reducible show wpAny _ _ (call (Value.ref 137) _) _ _ _); k_dflt (refine' record_call ?_ (by exact ⟨by k_asm, by k_asm, by k_asm, by k_asm, by k_asm, by first | exact rfl | (first | with_reducible assumption | assumption), by (simp only [depth_deeper, depth_in1, ktrTop]; omega), by (simp only [units_deeper, units_in1, ktrTop]; omega)⟩) (by repeat (first | with_reducible assumption | exact List.Mem.head _ | refine memS ?_)) ?_; · rfl); intro t' h' tk' F' N'; (try k_sweep))) | (with_reducible ((with_reducible show wpAny _ _ (call (Value.ref 130) _) _ _ _); k_dflt (refine low_call (by omega) (by exact ⟨by k_asm, by k_asm, by k_asm, by k_asm, by k_asm, by first | exact rfl | (first | with_reducible assumption | assumption), by (simp only [depth_deeper, depth_in1, ktrTop]; omega), by (simp only [units_deeper, units_in1, ktrTop]; omega)⟩) ?_); intro t' h' tk' F' N'; (try k_sweep))) | (with_reducible ((with_reducible show wpAny _ _ (call (Value.ref 151) _) _ _ _); k_dflt (refine back_call (by omega) (by omega) (by omega) (by omega) (by exact ⟨by k_asm, by k_asm, by k_asm, by k_asm, by k_asm, by first | exact rfl | (first | with_reducible assumption | assumption), by (simp only [depth_deeper, depth_in1, ktrTop]; omega), by (simp only [units_deeper, units_in1, ktrTop]; omega)⟩) ?_); intro V' P' D' uV' uP' c' h' tk' eV' eP0' eP1' F' N' l1'; (have l1' := allLt_of l1'); (simp only [AllLt] at l1'); (try k_sweep))) | (with_reducible ((with_reducible show wpAny _ _ (binaryOp .Add (Value.bytes _ _) (Value.bytes _ _)) _ _ _); ((first | (with_reducible refine my_badd ?_ ?_) | refine my_badd (a := [_, _, _, _]) ?_ ?_ | refine my_badd ?_ ?_); · (simp only [List.length_append, lowL_length, List.length_cons, List.length_nil]; omega)); intro t' tk')) | (with_reducible ((with_reducible show wpAny _ _ (subscriptTail _ (Expr.Slice none (some (Expr.Name ("cut" : Str) _)) none _) (Value.ref _) (Value.ref _)) _ _ _); k_dflt (refine' kmk_slice (by k_asm) (by k_asm) (by kmk_list) (by kmk_part) (by kmk_part) ?_ (by with_unfolding_all rfl) (by kmk_pure) (by (show _ ≤ 16777216; omega))); intro D' h' F' N' l1; (try k_lt l1); (try k_sweep))) | (with_reducible ((with_reducible show wpAny _ _ (compareOp .Eq (Value.ref _) (Value.ref _)) _ _ _); first | (first | refine eq_empty_yes (by k_asm) (by repeat (first | with_reducible assumption | exact List.Mem.head _ | refine memS ?_)) (by exact List.Mem.head _) (by ((try simp only [units_deeper, units_in1, ktrTop, cLine_is]); omega)) ?_ | refine eq_empty_no (by k_asm) (by repeat (first | with_reducible assumption | exact List.Mem.head _ | refine memS ?_)) (by exact List.Mem.head _) (by ((try simp only [units_deeper, units_in1, ktrTop, cLine_is]); omega)) ?_) | k_dflt (first | refine eq_empty_yes (by k_asm) (by repeat (first | with_reducible assumption | exact List.Mem.head _ | refine memS ?_)) (by exact List.Mem.head _) (by ((try simp only [units_deeper, units_in1, ktrTop, cLine_is]); omega)) ?_ | refine eq_empty_no (by k_asm) (by repeat (first | with_reducible assumption | exact List.Mem.head _ | refine memS ?_)) (by exact List.Mem.head _) (by ((try simp only [units_deeper, units_in1, ktrTop, cLine_is]); omega)) ?_))) | ((with_reducible show wpAny _ _ (call (Value.builtin "len") [Value.ref _]) _ _ _); k_dflt (refine my_lenL (by k_asm) (by repeat (first | with_reducible assumption | exact List.Mem.head _ | refine memS ?_)) (by omega) ?_); intro _ _))) | (k_unfold; (try dsimp only)) | (k_end; wrow_close) | walk1 | (dsimp only; walk1) | (leave1; (try dsimp only))))
    refine Blk.into ?_
    k_dflt (refine' tape_any (old := old) (ps := ps) (tb := tb) (vs := aL) (c := cL) ?b0 ?b1 ?z0 ?z1 ?hps ?C ?n153 ?hold ?htb ?H ?_)
    case H =>
      refine ⟨?B, ?F, ?X, ?N, ?T, ?K, ?D, ?U⟩
      case N => (rename News _ _ _ _ => dN); exact rot1 dN
      case B => k_asm
      case F => k_asm
      case X => k_asm
      case T => k_asm
      case K => exact rfl
      case D => (simp only [depth_deeper, depth_in1, ktrTop]; omega)
      case U => (simp only [units_deeper, units_in1, ktrTop]; omega)
    case b0 => omega
    case b1 => omega
    case z0 => exact hz.lo
    case z1 => exact hz.hi
    case hps => exact hl1.okp
    case C => exact C
    case hold => exact fun q hq => .tail _ (hnews4 q (hold q hq))
    case htb => exact htb
    case n153 => exact List.forall_mem_cons.mpr ⟨by k_ne, h1534⟩
    intro k1 k2 x dx fs fr td S h' tk' t0 F' N' hS1 hS2 hS3 hH hsk hrk hgs hgr hfs hfr
    rename @LT.lt Nat _ _ _ ∧ AllLt _ nw => lq
    have lq2 := ltN (allLt_mem lq.2 _ hrw4)
    dsimp only at lq2
    (repeat' (first | ((with_reducible refine Blk.into ?_); (first | (with_reducible ((with_reducible show wpAny _ _ (subscriptTail _ _ (Value.ref _) (Value.int _ _)) _ _ _); (k_dflt (refine my_item (by k_asm) (by repeat (first | with_reducible assumption | refine memS ?_)) (by decide) (by decide) (by with_unfolding_all rfl) ?_ (by with_unfolding_all rfl))); (try simp only [Int.reduceToNat, List.getElem_toArray, List.getElem_cons_zero, List.getElem_cons_succ]))) | (with_reducible ((with_reducible show wpAny _ _ (subscriptTail _ _ (Value.ref _) (Value.int _ _)) _ _ _); (k_dflt (refine item_tupleT (News.isTup (by k_asm) (by repeat (first | with_reducible assumption | refine memS ?_))) (by decide) (by decide) (by rfl) (by rfl) ?_)))) | (with_reducible ((with_reducible show wpAny _ _ (binaryOp .Pow (Value.int 2 _) (Value.int _ _)) _ _ _); (refine my_pow (by omega) (by omega) ?_); intro v' p' e'; cases p'; (try replace e' := pow32 e'); (try replace e' := pow64 e'))) | (with_reducible ((with_reducible show wpAny _ _ (binaryOp .Mod (Value.int _ _) (Value.int _ _)) _ _ _); (refine my_mod (by omega) ?_); intro r' e' r0' r1')) | (with_reducible ((with_reducible show wpAny _ _ (binaryOp .Mult (Value.int _ _) (Value.int _ _)) _ _ _); (refine my_mul (by omega) ?_))) | (with_reducible ((with_reducible show wpAny _ _ (binaryOp .FloorDiv (Value.int _ _) (Value.int _ _)) _ _ _); (refine my_fdiv (by omega) (by omega) ?_); intro q' e' b')) | (with_reducible ((with_reducible show wpAny _ _ (binaryOp .BitXor (Value.int _ _) (Value.int 1 _)) _ _ _); (refine my_xor ?_); intro x' e')) | (with_reducible ((with_reducible show wpAny _ _ (call (Value.ref 137) _) _ _ _); k_dflt (refine' record_call ?_ (by exact ⟨by k_asm, by k_asm, by k_asm, by k_asm, by k_asm, by first | exact rfl | (first | with_reducible assumption | assumption), by (simp only [depth_deeper, depth_in1, ktrTop]; omega), by (simp only [units_deeper, units_in1, ktrTop]; omega)⟩) (by repeat (first | with_reducible assumption | exact List.Mem.head _ | refine memS ?_)) ?_; · rfl); intro t' h' tk' F' N'; (try k_sweep))) | (with_reducible ((with_reducible show wpAny _ _ (call (Value.ref 130) _) _ _ _); k_dflt (refine low_call (by omega) (by exact ⟨by k_asm, by k_asm, by k_asm, by k_asm, by k_asm, by first | exact rfl | (first | with_reducible assumption | assumption), by (simp only [depth_deeper, depth_in1, ktrTop]; omega), by (simp only [units_deeper, units_in1, ktrTop]; omega)⟩) ?_); intro t' h' tk' F' N'; (try k_sweep))) | (with_reducible ((with_reducible show wpAny _ _ (call (Value.ref 151) _) _ _ _); k_dflt (refine back_call (by omega) (by omega) (by omega) (by omega) (by exact ⟨by k_asm, by k_asm, by k_asm, by k_asm, by k_asm, by first | exact rfl | (first | with_reducible assumption | assumption), by (simp only [depth_deeper, depth_in1, ktrTop]; omega), by (simp only [units_deeper, units_in1, ktrTop]; omega)⟩) ?_); intro V' P' D' uV' uP' c' h' tk' eV' eP0' eP1' F' N' l1'; (have l1' := allLt_of l1'); (simp only [AllLt] at l1'); (try k_sweep))) | (with_reducible ((with_reducible show wpAny _ _ (binaryOp .Add (Value.bytes _ _) (Value.bytes _ _)) _ _ _); ((first | (with_reducible refine my_badd ?_ ?_) | refine my_badd (a := [_, _, _, _]) ?_ ?_ | refine my_badd ?_ ?_); · (simp only [List.length_append, lowL_length, List.length_cons, List.length_nil]; omega)); intro t' tk')) | (with_reducible ((with_reducible show wpAny _ _ (subscriptTail _ (Expr.Slice none (some (Expr.Name ("cut" : Str) _)) none _) (Value.ref _) (Value.ref _)) _ _ _); k_dflt (refine' kmk_slice (by k_asm) (by k_asm) (by kmk_list) (by kmk_part) (by kmk_part) ?_ (by with_unfolding_all rfl) (by kmk_pure) (by (show _ ≤ 16777216; omega))); intro D' h' F' N' l1; (try k_lt l1); (try k_sweep))) | (with_reducible ((with_reducible show wpAny _ _ (compareOp .Eq (Value.ref _) (Value.ref _)) _ _ _); first | (first | refine eq_empty_yes (by k_asm) (by repeat (first | with_reducible assumption | exact List.Mem.head _ | refine memS ?_)) (by exact List.Mem.head _) (by ((try simp only [units_deeper, units_in1, ktrTop, cLine_is]); omega)) ?_ | refine eq_empty_no (by k_asm) (by repeat (first | with_reducible assumption | exact List.Mem.head _ | refine memS ?_)) (by exact List.Mem.head _) (by ((try simp only [units_deeper, units_in1, ktrTop, cLine_is]); omega)) ?_) | k_dflt (first | refine eq_empty_yes (by k_asm) (by repeat (first | with_reducible assumption | exact List.Mem.head _ | refine memS ?_)) (by exact List.Mem.head _) (by ((try simp only [units_deeper, units_in1, ktrTop, cLine_is]); omega)) ?_ | refine eq_empty_no (by k_asm) (by repeat (first | with_reducible assumption | exact List.Mem.head _ | refine memS ?_)) (by exact List.Mem.head _) (by ((try simp only [units_deeper, units_in1, ktrTop, cLine_is]); omega)) ?_))) | ((with_reducible show wpAny _ _ (call (Value.builtin "len") [Value.ref _]) _ _ _); k_dflt (refine my_lenL (by k_asm) (by repeat (first | with_reducible assumption | exact List.Mem.head _ | refine memS ?_)) (by omega) ?_); intro _ _))) | (k_unfold; (try dsimp only)) | (k_end; wrow_close) | walk1 | (dsimp only; walk1) | (leave1; (try dsimp only))))
    (refine ⟨_, _, rfl, ?_⟩; intro G k; exact Jn.un12 (k _ k1 k2 _ x dx fs fr td S _ t0 (by k_asm) (by k_asm) (by repeat (first | exact nm_nil | refine nm_cons (by with_unfolding_all rfl) ?_))) ⟨hS1, hS2, hS3, hH, allLt_ne lq.2 (Nat.le_refl _), by omega, hsk, hrk, hgs, hgr, hfs, hfr⟩)
  intro h19 tk19 hJ
  with_reducible refine hJ _ ?_
  clear hJ Jc
  rintro m19 k1 k2 qa x dx fs fr td S cqa t0 F19 N19 M19 hS1 hS2 hS3 hH hqa lqa hsk hrk hgs hgr hfs hfr
  with_reducible refine fr_fold F19 M19 ?_
  clear F19
  intro mm F19
  clear M19 F18 N18 h1534
  have hee := end_lt hv he g0
  have lrw : @LT.lt Nat instLTNat L1 rw := by omega
  have hall : ∀ q ∈ nw, q ∈ (153, tabObj (hitTb k1 k2)) :: (dx, td (.int 0 t0)) :: (S ++ (qa, listOf #[] cqa) :: nw) := fun q hq => .tail _ (.tail _ (List.mem_append_right _ (.tail _ hq)))
  have hallq : (qa, listOf #[] cqa) ∈ (153, tabObj (hitTb k1 k2)) :: (dx, td (.int 0 t0)) :: (S ++ (qa, listOf #[] cqa) :: nw) := .tail _ (.tail _ (List.mem_append_right _ (.head _)))
  have dqr : @Ne Nat qa rw := fun e => hqa _ hrw4 e.symm
  have hSr : ∀ q ∈ S, q ∈ offL ((153, tabObj (hitTb k1 k2)) :: (dx, td (.int 0 t0)) :: (S ++ (qa, listOf #[] cqa) :: nw)) [dx, qa, rw] := fun q hq => offL_mem (.tail _ (.tail _ (List.mem_append_left _ hq))) (by
    rcases (hS1 q hq).2 with h | h
    · have := ltN (allLt_mem l1.2 q (hold q h))
      exact ine3 (hS1 q hq).1 (Nat.ne_of_lt (Nat.lt_trans this lqa)) (Nat.ne_of_lt (Nat.lt_trans this lrw))
    · exact ine3 (hS1 q hq).1 (h _ (.head _)) (h _ (.tail _ hrw4)))
  have hwr : ∀ q ∈ nw, @Ne Nat q.1 rw → q ∈ offL ((153, tabObj (hitTb k1 k2)) :: (dx, td (.int 0 t0)) :: (S ++ (qa, listOf #[] cqa) :: nw)) [dx, qa, rw] := fun q hq h => offL_mem (hall q hq) (ine3 (hS2 q (.tail _ hq)) (hqa q hq) h)
  have hp5 := pieces_off N19 hall hallq (hall _ hrw4) (fun r hr => hS2 r (.tail _ hr)) hp4
  have hq6 := asked_off N19 hall hallq (hall _ hrw4) (fun r hr => hS2 r (.tail _ hr)) hq4
  have NE : News g L1 h19 ((dx, td (.int 0 t0)) :: (qa, listOf #[] cqa) :: (rw, listOf (rowA #[80, 75, 5, 6] b8 65535 65535 65535 65535 4294967295 4294967295 c9 e x0 x1 x2 x3 x4 x5 x6 t9 x8 te) cw) :: offL ((153, tabObj (hitTb k1 k2)) :: (dx, td (.int 0 t0)) :: (S ++ (qa, listOf #[] cqa) :: nw)) [dx, qa, rw]) := cb_drop N19 (List.forall_mem_cons.mpr ⟨.tail _ (.head _), List.forall_mem_cons.mpr ⟨hallq, List.forall_mem_cons.mpr ⟨hall _ hrw4, offL_sub⟩⟩⟩)
  have hoffE : ∀ q ∈ offL ((153, tabObj (hitTb k1 k2)) :: (dx, td (.int 0 t0)) :: (S ++ (qa, listOf #[] cqa) :: nw)) [dx, qa, rw], ∀ a ∈ [dx, qa, rw], @Ne Nat q.1 a := fun q hq a ha e => by
    have := (List.mem_filter.mp hq).2
    simp only [Bool.not_eq_true', List.contains_eq_mem, decide_eq_false_iff_not] at this
    exact this (by rw [show (q.1 : Nat) = a from e]; exact ha)
  have hdu5 := hwr _ hdu4 (fun e => by rw [show (du : Nat) = rw from e] at ldu; exact Nat.lt_irrefl _ ldu)
  have hrd5 := hwr _ hrd4 (fun e => by rw [show (rd : Nat) = rw from e] at lrd; exact Nat.lt_irrefl _ lrd)
  have hla5 := hwr _ hla4 (by dsimp only; omega)
  have hnews5 : ∀ q ∈ news, q ∈ offL ((153, tabObj (hitTb k1 k2)) :: (dx, td (.int 0 t0)) :: (S ++ (qa, listOf #[] cqa) :: nw)) [dx, qa, rw] := fun q hq => hwr q (hnews4 q hq) (Nat.ne_of_lt (Nat.lt_trans (ltN (allLt_mem l1.2 q hq)) lrw))
  have h1535 : (153, tabObj (hitTb k1 k2)) ∈ offL ((153, tabObj (hitTb k1 k2)) :: (dx, td (.int 0 t0)) :: (S ++ (qa, listOf #[] cqa) :: nw)) [dx, qa, rw] := offL_mem (.head _) (ine3 hS3 (by omega) (by omega))
  generalize offL ((153, tabObj (hitTb k1 k2)) :: (dx, td (.int 0 t0)) :: (S ++ (qa, listOf #[] cqa) :: nw)) [dx, qa, rw] = rest at *
  let Jc : Heap → Prop := fun h' => ∀ G : Prop, (∀ (g' : Heap) (m' : Str → Option Value) (na : List (Addr × Obj)) (rowB : Array Value) (refs : List Value) (crb cqa : Nat) (tc : Tok), Fr g' L1 h' m' → News g' L1 h' na → NmAre m' [("row", .ref rw), ("says", .str sy tsy), ("due", .ref du), ("reads", .ref rd), ("asked", .ref qa), ("came", .str sy tc)] → ((∀ q ∈ rest, q ∈ na)) → ((rw, listOf rowB crb) ∈ na) → ((qa, listOf refs.toArray cqa) ∈ na) → (AskedAre z na refs rq) → (RowsEq rowB dA) → (KtsTurn [L] g g') → (Below (ktrTop dp un gd cn cs L ad ccd cl []) base [envX cn cs L ad ccd cl] g') → ((hd.heap_39 w.params).In g') → (Top p loose mean mg mb g') → G) → G
  with_reducible refine Jn.ckpt 1 Jc ?_ ?_
  · dsimp only [List.take, List.drop]
    k_fold
    (repeat' (first | ((with_reducible refine Blk.into ?_); (first | (with_reducible ((with_reducible show wpAny _ _ (subscriptTail _ _ (Value.ref _) (Value.int _ _)) _ _ _); (k_dflt (refine my_item (by k_asm) (by repeat (first | with_reducible assumption | refine memS ?_)) (by decide) (by decide) (by with_unfolding_all rfl) ?_ (by with_unfolding_all rfl))); (try simp only [Int.reduceToNat, List.getElem_toArray, List.getElem_cons_zero, List.getElem_cons_succ]))) | (with_reducible ((with_reducible show wpAny _ _ (subscriptTail _ _ (Value.ref _) (Value.int _ _)) _ _ _); (k_dflt (refine item_tupleT (News.isTup (by k_asm) (by repeat (first | with_reducible assumption | refine memS ?_))) (by decide) (by decide) (by rfl) (by rfl) ?_)))) | (with_reducible ((with_reducible show wpAny _ _ (binaryOp .Pow (Value.int 2 _) (Value.int _ _)) _ _ _); (refine my_pow (by omega) (by omega) ?_); intro v' p' e'; cases p'; (try replace e' := pow32 e'); (try replace e' := pow64 e'))) | (with_reducible ((with_reducible show wpAny _ _ (binaryOp .Mod (Value.int _ _) (Value.int _ _)) _ _ _); (refine my_mod (by omega) ?_); intro r' e' r0' r1')) | (with_reducible ((with_reducible show wpAny _ _ (binaryOp .Mult (Value.int _ _) (Value.int _ _)) _ _ _); (refine my_mul (by omega) ?_))) | (with_reducible ((with_reducible show wpAny _ _ (binaryOp .FloorDiv (Value.int _ _) (Value.int _ _)) _ _ _); (refine my_fdiv (by omega) (by omega) ?_); intro q' e' b')) | (with_reducible ((with_reducible show wpAny _ _ (binaryOp .BitXor (Value.int _ _) (Value.int 1 _)) _ _ _); (refine my_xor ?_); intro x' e')) | (with_reducible ((with_reducible show wpAny _ _ (call (Value.ref 137) _) _ _ _); k_dflt (refine' record_call ?_ (by exact ⟨by k_asm, by k_asm, by k_asm, by k_asm, by k_asm, by first | exact rfl | (first | with_reducible assumption | assumption), by (simp only [depth_deeper, depth_in1, ktrTop]; omega), by (simp only [units_deeper, units_in1, ktrTop]; omega)⟩) (by repeat (first | with_reducible assumption | exact List.Mem.head _ | refine memS ?_)) ?_; · rfl); intro t' h' tk' F' N'; (try k_sweep))) | (with_reducible ((with_reducible show wpAny _ _ (call (Value.ref 130) _) _ _ _); k_dflt (refine low_call (by omega) (by exact ⟨by k_asm, by k_asm, by k_asm, by k_asm, by k_asm, by first | exact rfl | (first | with_reducible assumption | assumption), by (simp only [depth_deeper, depth_in1, ktrTop]; omega), by (simp only [units_deeper, units_in1, ktrTop]; omega)⟩) ?_); intro t' h' tk' F' N'; (try k_sweep))) | (with_reducible ((with_reducible show wpAny _ _ (call (Value.ref 151) _) _ _ _); k_dflt (refine back_call (by omega) (by omega) (by omega) (by omega) (by exact ⟨by k_asm, by k_asm, by k_asm, by k_asm, by k_asm, by first | exact rfl | (first | with_reducible assumption | assumption), by (simp only [depth_deeper, depth_in1, ktrTop]; omega), by (simp only [units_deeper, units_in1, ktrTop]; omega)⟩) ?_); intro V' P' D' uV' uP' c' h' tk' eV' eP0' eP1' F' N' l1'; (have l1' := allLt_of l1'); (simp only [AllLt] at l1'); (try k_sweep))) | (with_reducible ((with_reducible show wpAny _ _ (binaryOp .Add (Value.bytes _ _) (Value.bytes _ _)) _ _ _); ((first | (with_reducible refine my_badd ?_ ?_) | refine my_badd (a := [_, _, _, _]) ?_ ?_ | refine my_badd ?_ ?_); · (simp only [List.length_append, lowL_length, List.length_cons, List.length_nil]; omega)); intro t' tk')) | (with_reducible ((with_reducible show wpAny _ _ (subscriptTail _ (Expr.Slice none (some (Expr.Name ("cut" : Str) _)) none _) (Value.ref _) (Value.ref _)) _ _ _); k_dflt (refine' kmk_slice (by k_asm) (by k_asm) (by kmk_list) (by kmk_part) (by kmk_part) ?_ (by with_unfolding_all rfl) (by kmk_pure) (by (show _ ≤ 16777216; omega))); intro D' h' F' N' l1; (try k_lt l1); (try k_sweep))) | (with_reducible ((with_reducible show wpAny _ _ (compareOp .Eq (Value.ref _) (Value.ref _)) _ _ _); first | (first | refine eq_empty_yes (by k_asm) (by repeat (first | with_reducible assumption | exact List.Mem.head _ | refine memS ?_)) (by exact List.Mem.head _) (by ((try simp only [units_deeper, units_in1, ktrTop, cLine_is]); omega)) ?_ | refine eq_empty_no (by k_asm) (by repeat (first | with_reducible assumption | exact List.Mem.head _ | refine memS ?_)) (by exact List.Mem.head _) (by ((try simp only [units_deeper, units_in1, ktrTop, cLine_is]); omega)) ?_) | k_dflt (first | refine eq_empty_yes (by k_asm) (by repeat (first | with_reducible assumption | exact List.Mem.head _ | refine memS ?_)) (by exact List.Mem.head _) (by ((try simp only [units_deeper, units_in1, ktrTop, cLine_is]); omega)) ?_ | refine eq_empty_no (by k_asm) (by repeat (first | with_reducible assumption | exact List.Mem.head _ | refine memS ?_)) (by exact List.Mem.head _) (by ((try simp only [units_deeper, units_in1, ktrTop, cLine_is]); omega)) ?_))) | ((with_reducible show wpAny _ _ (call (Value.builtin "len") [Value.ref _]) _ _ _); k_dflt (refine my_lenL (by k_asm) (by repeat (first | with_reducible assumption | exact List.Mem.head _ | refine memS ?_)) (by omega) ?_); intro _ _))) | (k_unfold; (try dsimp only)) | (k_end; wrow_close) | walk1 | (dsimp only; walk1) | (leave1; (try dsimp only))))
    refine Blk.into ?_
    k_dflt (refine' end_call (rest := rest) (ps := ps) (vs := aL) (lc := cL) (S := S) (cut := cu) (bits := bi) (size := z) (td := td) hgs hgr hsk hrk hfs hfr he.e0 hee hSr ?hdx ?hqa ?hrw ?d1 ?d2 ?d3 hla5 hp5 ?H ?hrow ?hnew ?hbad ?hshort)
    case hdx => exact fun q hq => hoffE q hq _ (.head _)
    case hqa => exact fun q hq => hoffE q hq _ (.tail _ (.head _))
    case hrw => exact fun q hq => hoffE q hq _ (.tail _ (.tail _ (.head _)))
    case d1 => exact fun e => hS2 _ (.head _) e.symm
    case d2 => exact fun e => hS2 _ (.tail _ hrw4) e.symm
    case d3 => exact dqr
    case H =>
      refine ⟨?B, ?F, ?X, ?N, ?T, ?K, ?D, ?U⟩
      case N => exact NE
      case B => k_asm
      case F => k_asm
      case X => k_asm
      case T => k_asm
      case K => exact rfl
      case D => (simp only [depth_deeper, depth_in1, ktrTop]; omega)
      case U => (simp only [units_deeper, units_in1, ktrTop]; omega)
    case hrow =>
      intro rs news' h' tk' hE hled F' N'
      obtain ⟨hsub, ec, hrwm, refs, ep, hqam, hasked⟩ := hled
      obtain ⟨e1, e2, e3⟩ := said_row hsd hE
      subst e1 e2 e3
      (repeat' (first | ((with_reducible refine Blk.into ?_); (first | (with_reducible ((with_reducible show wpAny _ _ (subscriptTail _ _ (Value.ref _) (Value.int _ _)) _ _ _); (k_dflt (refine my_item (by k_asm) (by repeat (first | with_reducible assumption | refine memS ?_)) (by decide) (by decide) (by with_unfolding_all rfl) ?_ (by with_unfolding_all rfl))); (try simp only [Int.reduceToNat, List.getElem_toArray, List.getElem_cons_zero, List.getElem_cons_succ]))) | (with_reducible ((with_reducible show wpAny _ _ (subscriptTail _ _ (Value.ref _) (Value.int _ _)) _ _ _); (k_dflt (refine item_tupleT (News.isTup (by k_asm) (by repeat (first | with_reducible assumption | refine memS ?_))) (by decide) (by decide) (by rfl) (by rfl) ?_)))) | (with_reducible ((with_reducible show wpAny _ _ (binaryOp .Pow (Value.int 2 _) (Value.int _ _)) _ _ _); (refine my_pow (by omega) (by omega) ?_); intro v' p' e'; cases p'; (try replace e' := pow32 e'); (try replace e' := pow64 e'))) | (with_reducible ((with_reducible show wpAny _ _ (binaryOp .Mod (Value.int _ _) (Value.int _ _)) _ _ _); (refine my_mod (by omega) ?_); intro r' e' r0' r1')) | (with_reducible ((with_reducible show wpAny _ _ (binaryOp .Mult (Value.int _ _) (Value.int _ _)) _ _ _); (refine my_mul (by omega) ?_))) | (with_reducible ((with_reducible show wpAny _ _ (binaryOp .FloorDiv (Value.int _ _) (Value.int _ _)) _ _ _); (refine my_fdiv (by omega) (by omega) ?_); intro q' e' b')) | (with_reducible ((with_reducible show wpAny _ _ (binaryOp .BitXor (Value.int _ _) (Value.int 1 _)) _ _ _); (refine my_xor ?_); intro x' e')) | (with_reducible ((with_reducible show wpAny _ _ (call (Value.ref 137) _) _ _ _); k_dflt (refine' record_call ?_ (by exact ⟨by k_asm, by k_asm, by k_asm, by k_asm, by k_asm, by first | exact rfl | (first | with_reducible assumption | assumption), by (simp only [depth_deeper, depth_in1, ktrTop]; omega), by (simp only [units_deeper, units_in1, ktrTop]; omega)⟩) (by repeat (first | with_reducible assumption | exact List.Mem.head _ | refine memS ?_)) ?_; · rfl); intro t' h' tk' F' N'; (try k_sweep))) | (with_reducible ((with_reducible show wpAny _ _ (call (Value.ref 130) _) _ _ _); k_dflt (refine low_call (by omega) (by exact ⟨by k_asm, by k_asm, by k_asm, by k_asm, by k_asm, by first | exact rfl | (first | with_reducible assumption | assumption), by (simp only [depth_deeper, depth_in1, ktrTop]; omega), by (simp only [units_deeper, units_in1, ktrTop]; omega)⟩) ?_); intro t' h' tk' F' N'; (try k_sweep))) | (with_reducible ((with_reducible show wpAny _ _ (call (Value.ref 151) _) _ _ _); k_dflt (refine back_call (by omega) (by omega) (by omega) (by omega) (by exact ⟨by k_asm, by k_asm, by k_asm, by k_asm, by k_asm, by first | exact rfl | (first | with_reducible assumption | assumption), by (simp only [depth_deeper, depth_in1, ktrTop]; omega), by (simp only [units_deeper, units_in1, ktrTop]; omega)⟩) ?_); intro V' P' D' uV' uP' c' h' tk' eV' eP0' eP1' F' N' l1'; (have l1' := allLt_of l1'); (simp only [AllLt] at l1'); (try k_sweep))) | (with_reducible ((with_reducible show wpAny _ _ (binaryOp .Add (Value.bytes _ _) (Value.bytes _ _)) _ _ _); ((first | (with_reducible refine my_badd ?_ ?_) | refine my_badd (a := [_, _, _, _]) ?_ ?_ | refine my_badd ?_ ?_); · (simp only [List.length_append, lowL_length, List.length_cons, List.length_nil]; omega)); intro t' tk')) | (with_reducible ((with_reducible show wpAny _ _ (subscriptTail _ (Expr.Slice none (some (Expr.Name ("cut" : Str) _)) none _) (Value.ref _) (Value.ref _)) _ _ _); k_dflt (refine' kmk_slice (by k_asm) (by k_asm) (by kmk_list) (by kmk_part) (by kmk_part) ?_ (by with_unfolding_all rfl) (by kmk_pure) (by (show _ ≤ 16777216; omega))); intro D' h' F' N' l1; (try k_lt l1); (try k_sweep))) | (with_reducible ((with_reducible show wpAny _ _ (compareOp .Eq (Value.ref _) (Value.ref _)) _ _ _); first | (first | refine eq_empty_yes (by k_asm) (by repeat (first | with_reducible assumption | exact List.Mem.head _ | refine memS ?_)) (by exact List.Mem.head _) (by ((try simp only [units_deeper, units_in1, ktrTop, cLine_is]); omega)) ?_ | refine eq_empty_no (by k_asm) (by repeat (first | with_reducible assumption | exact List.Mem.head _ | refine memS ?_)) (by exact List.Mem.head _) (by ((try simp only [units_deeper, units_in1, ktrTop, cLine_is]); omega)) ?_) | k_dflt (first | refine eq_empty_yes (by k_asm) (by repeat (first | with_reducible assumption | exact List.Mem.head _ | refine memS ?_)) (by exact List.Mem.head _) (by ((try simp only [units_deeper, units_in1, ktrTop, cLine_is]); omega)) ?_ | refine eq_empty_no (by k_asm) (by repeat (first | with_reducible assumption | exact List.Mem.head _ | refine memS ?_)) (by exact List.Mem.head _) (by ((try simp only [units_deeper, units_in1, ktrTop, cLine_is]); omega)) ?_))) | ((with_reducible show wpAny _ _ (call (Value.builtin "len") [Value.ref _]) _ _ _); k_dflt (refine my_lenL (by k_asm) (by repeat (first | with_reducible assumption | exact List.Mem.head _ | refine memS ?_)) (by omega) ?_); intro _ _))) | (k_unfold; (try dsimp only)) | (k_end; wrow_close) | walk1 | (dsimp only; walk1) | (leave1; (try dsimp only))))
      (refine ⟨_, _, rfl, ?_⟩; intro G k; exact Jn.un9 (k g _ _ _ _ _ _ _ (by k_asm) (by k_asm) (by repeat (first | exact nm_nil | refine nm_cons (by with_unfolding_all rfl) ?_))) ⟨hsub, hrwm, hqam, hasked, rows_refl, KtsTurn.refl, B1, X1, T1⟩)
    case hnew =>
      intro rs r spot news' h' tk' u0 u1 u2 u3 u4 u5 u6 u9 hE hled F' N'
      obtain ⟨hsub, ec, hrwm, refs, ep, hqam, hasked⟩ := hled
      obtain ⟨e1, e2, e3, y0, y1, y2, y3, y4, y5, y6, y7, y8, y9, e4⟩ := said_new hsd hE
      rw [e3] at hrwm
      subst e1 e2 e4
      (repeat' (first | ((with_reducible refine Blk.into ?_); (first | (with_reducible ((with_reducible show wpAny _ _ (subscriptTail _ _ (Value.ref _) (Value.int _ _)) _ _ _); (k_dflt (refine my_item (by k_asm) (by repeat (first | with_reducible assumption | refine memS ?_)) (by decide) (by decide) (by with_unfolding_all rfl) ?_ (by with_unfolding_all rfl))); (try simp only [Int.reduceToNat, List.getElem_toArray, List.getElem_cons_zero, List.getElem_cons_succ]))) | (with_reducible ((with_reducible show wpAny _ _ (subscriptTail _ _ (Value.ref _) (Value.int _ _)) _ _ _); (k_dflt (refine item_tupleT (News.isTup (by k_asm) (by repeat (first | with_reducible assumption | refine memS ?_))) (by decide) (by decide) (by rfl) (by rfl) ?_)))) | (with_reducible ((with_reducible show wpAny _ _ (binaryOp .Pow (Value.int 2 _) (Value.int _ _)) _ _ _); (refine my_pow (by omega) (by omega) ?_); intro v' p' e'; cases p'; (try replace e' := pow32 e'); (try replace e' := pow64 e'))) | (with_reducible ((with_reducible show wpAny _ _ (binaryOp .Mod (Value.int _ _) (Value.int _ _)) _ _ _); (refine my_mod (by omega) ?_); intro r' e' r0' r1')) | (with_reducible ((with_reducible show wpAny _ _ (binaryOp .Mult (Value.int _ _) (Value.int _ _)) _ _ _); (refine my_mul (by omega) ?_))) | (with_reducible ((with_reducible show wpAny _ _ (binaryOp .FloorDiv (Value.int _ _) (Value.int _ _)) _ _ _); (refine my_fdiv (by omega) (by omega) ?_); intro q' e' b')) | (with_reducible ((with_reducible show wpAny _ _ (binaryOp .BitXor (Value.int _ _) (Value.int 1 _)) _ _ _); (refine my_xor ?_); intro x' e')) | (with_reducible ((with_reducible show wpAny _ _ (call (Value.ref 137) _) _ _ _); k_dflt (refine' record_call ?_ (by exact ⟨by k_asm, by k_asm, by k_asm, by k_asm, by k_asm, by first | exact rfl | (first | with_reducible assumption | assumption), by (simp only [depth_deeper, depth_in1, ktrTop]; omega), by (simp only [units_deeper, units_in1, ktrTop]; omega)⟩) (by repeat (first | with_reducible assumption | exact List.Mem.head _ | refine memS ?_)) ?_; · rfl); intro t' h' tk' F' N'; (try k_sweep))) | (with_reducible ((with_reducible show wpAny _ _ (call (Value.ref 130) _) _ _ _); k_dflt (refine low_call (by omega) (by exact ⟨by k_asm, by k_asm, by k_asm, by k_asm, by k_asm, by first | exact rfl | (first | with_reducible assumption | assumption), by (simp only [depth_deeper, depth_in1, ktrTop]; omega), by (simp only [units_deeper, units_in1, ktrTop]; omega)⟩) ?_); intro t' h' tk' F' N'; (try k_sweep))) | (with_reducible ((with_reducible show wpAny _ _ (call (Value.ref 151) _) _ _ _); k_dflt (refine back_call (by omega) (by omega) (by omega) (by omega) (by exact ⟨by k_asm, by k_asm, by k_asm, by k_asm, by k_asm, by first | exact rfl | (first | with_reducible assumption | assumption), by (simp only [depth_deeper, depth_in1, ktrTop]; omega), by (simp only [units_deeper, units_in1, ktrTop]; omega)⟩) ?_); intro V' P' D' uV' uP' c' h' tk' eV' eP0' eP1' F' N' l1'; (have l1' := allLt_of l1'); (simp only [AllLt] at l1'); (try k_sweep))) | (with_reducible ((with_reducible show wpAny _ _ (binaryOp .Add (Value.bytes _ _) (Value.bytes _ _)) _ _ _); ((first | (with_reducible refine my_badd ?_ ?_) | refine my_badd (a := [_, _, _, _]) ?_ ?_ | refine my_badd ?_ ?_); · (simp only [List.length_append, lowL_length, List.length_cons, List.length_nil]; omega)); intro t' tk')) | (with_reducible ((with_reducible show wpAny _ _ (subscriptTail _ (Expr.Slice none (some (Expr.Name ("cut" : Str) _)) none _) (Value.ref _) (Value.ref _)) _ _ _); k_dflt (refine' kmk_slice (by k_asm) (by k_asm) (by kmk_list) (by kmk_part) (by kmk_part) ?_ (by with_unfolding_all rfl) (by kmk_pure) (by (show _ ≤ 16777216; omega))); intro D' h' F' N' l1; (try k_lt l1); (try k_sweep))) | (with_reducible ((with_reducible show wpAny _ _ (compareOp .Eq (Value.ref _) (Value.ref _)) _ _ _); first | (first | refine eq_empty_yes (by k_asm) (by repeat (first | with_reducible assumption | exact List.Mem.head _ | refine memS ?_)) (by exact List.Mem.head _) (by ((try simp only [units_deeper, units_in1, ktrTop, cLine_is]); omega)) ?_ | refine eq_empty_no (by k_asm) (by repeat (first | with_reducible assumption | exact List.Mem.head _ | refine memS ?_)) (by exact List.Mem.head _) (by ((try simp only [units_deeper, units_in1, ktrTop, cLine_is]); omega)) ?_) | k_dflt (first | refine eq_empty_yes (by k_asm) (by repeat (first | with_reducible assumption | exact List.Mem.head _ | refine memS ?_)) (by exact List.Mem.head _) (by ((try simp only [units_deeper, units_in1, ktrTop, cLine_is]); omega)) ?_ | refine eq_empty_no (by k_asm) (by repeat (first | with_reducible assumption | exact List.Mem.head _ | refine memS ?_)) (by exact List.Mem.head _) (by ((try simp only [units_deeper, units_in1, ktrTop, cLine_is]); omega)) ?_))) | ((with_reducible show wpAny _ _ (call (Value.builtin "len") [Value.ref _]) _ _ _); k_dflt (refine my_lenL (by k_asm) (by repeat (first | with_reducible assumption | exact List.Mem.head _ | refine memS ?_)) (by omega) ?_); intro _ _))) | (k_unfold; (try dsimp only)) | (k_end; wrow_close) | walk1 | (dsimp only; walk1) | (leave1; (try dsimp only))))
      (refine ⟨_, _, rfl, ?_⟩; intro G k; exact Jn.un9 (k g _ _ _ _ _ _ _ (by k_asm) (by k_asm) (by repeat (first | exact nm_nil | refine nm_cons (by with_unfolding_all rfl) ?_))) ⟨hsub, hrwm, hqam, hasked, rows_new, KtsTurn.refl, B1, X1, T1⟩)
    case hbad =>
      intro rs news' g2 h' tk' ex hE hled hR F' hU
      obtain ⟨hsub, ec, hrwm, refs, ep, hqam, hasked⟩ := hled
      obtain ⟨e1, e2, e3⟩ := said_bad hsd hE
      subst e1 e2 e3
      k_unfold
      try dsimp only
      refine Jn.noteX hR rfl rfl hU ?_
      intro h2 R2 U2
      refine Jn.hitX R2 rfl F' B1 U2 XB TB D1 ?T ?k ?hE
      case T =>
        refine' Jn.testX ?n ?x ?hk ?hx ?hd
        case n => kts_nm
        case x => kts_exm
        case hk => exact rfl
        case hx => exact rfl
        case hd => decide
      case hE => first | passes_own | with_unfolding_all passes_own
      case k =>
        intro h3 g3 T3 F3 N3 K3 X3 P3 D3
        (repeat' (first | ((with_reducible refine Blk.into ?_); (first | (with_reducible ((with_reducible show wpAny _ _ (subscriptTail _ _ (Value.ref _) (Value.int _ _)) _ _ _); (k_dflt (refine my_item (by k_asm) (by repeat (first | with_reducible assumption | refine memS ?_)) (by decide) (by decide) (by with_unfolding_all rfl) ?_ (by with_unfolding_all rfl))); (try simp only [Int.reduceToNat, List.getElem_toArray, List.getElem_cons_zero, List.getElem_cons_succ]))) | (with_reducible ((with_reducible show wpAny _ _ (subscriptTail _ _ (Value.ref _) (Value.int _ _)) _ _ _); (k_dflt (refine item_tupleT (News.isTup (by k_asm) (by repeat (first | with_reducible assumption | refine memS ?_))) (by decide) (by decide) (by rfl) (by rfl) ?_)))) | (with_reducible ((with_reducible show wpAny _ _ (binaryOp .Pow (Value.int 2 _) (Value.int _ _)) _ _ _); (refine my_pow (by omega) (by omega) ?_); intro v' p' e'; cases p'; (try replace e' := pow32 e'); (try replace e' := pow64 e'))) | (with_reducible ((with_reducible show wpAny _ _ (binaryOp .Mod (Value.int _ _) (Value.int _ _)) _ _ _); (refine my_mod (by omega) ?_); intro r' e' r0' r1')) | (with_reducible ((with_reducible show wpAny _ _ (binaryOp .Mult (Value.int _ _) (Value.int _ _)) _ _ _); (refine my_mul (by omega) ?_))) | (with_reducible ((with_reducible show wpAny _ _ (binaryOp .FloorDiv (Value.int _ _) (Value.int _ _)) _ _ _); (refine my_fdiv (by omega) (by omega) ?_); intro q' e' b')) | (with_reducible ((with_reducible show wpAny _ _ (binaryOp .BitXor (Value.int _ _) (Value.int 1 _)) _ _ _); (refine my_xor ?_); intro x' e')) | (with_reducible ((with_reducible show wpAny _ _ (call (Value.ref 137) _) _ _ _); k_dflt (refine' record_call ?_ (by exact ⟨by k_asm, by k_asm, by k_asm, by k_asm, by k_asm, by first | exact rfl | (first | with_reducible assumption | assumption), by (simp only [depth_deeper, depth_in1, ktrTop]; omega), by (simp only [units_deeper, units_in1, ktrTop]; omega)⟩) (by repeat (first | with_reducible assumption | exact List.Mem.head _ | refine memS ?_)) ?_; · rfl); intro t' h' tk' F' N'; (try k_sweep))) | (with_reducible ((with_reducible show wpAny _ _ (call (Value.ref 130) _) _ _ _); k_dflt (refine low_call (by omega) (by exact ⟨by k_asm, by k_asm, by k_asm, by k_asm, by k_asm, by first | exact rfl | (first | with_reducible assumption | assumption), by (simp only [depth_deeper, depth_in1, ktrTop]; omega), by (simp only [units_deeper, units_in1, ktrTop]; omega)⟩) ?_); intro t' h' tk' F' N'; (try k_sweep))) | (with_reducible ((with_reducible show wpAny _ _ (call (Value.ref 151) _) _ _ _); k_dflt (refine back_call (by omega) (by omega) (by omega) (by omega) (by exact ⟨by k_asm, by k_asm, by k_asm, by k_asm, by k_asm, by first | exact rfl | (first | with_reducible assumption | assumption), by (simp only [depth_deeper, depth_in1, ktrTop]; omega), by (simp only [units_deeper, units_in1, ktrTop]; omega)⟩) ?_); intro V' P' D' uV' uP' c' h' tk' eV' eP0' eP1' F' N' l1'; (have l1' := allLt_of l1'); (simp only [AllLt] at l1'); (try k_sweep))) | (with_reducible ((with_reducible show wpAny _ _ (binaryOp .Add (Value.bytes _ _) (Value.bytes _ _)) _ _ _); ((first | (with_reducible refine my_badd ?_ ?_) | refine my_badd (a := [_, _, _, _]) ?_ ?_ | refine my_badd ?_ ?_); · (simp only [List.length_append, lowL_length, List.length_cons, List.length_nil]; omega)); intro t' tk')) | (with_reducible ((with_reducible show wpAny _ _ (subscriptTail _ (Expr.Slice none (some (Expr.Name ("cut" : Str) _)) none _) (Value.ref _) (Value.ref _)) _ _ _); k_dflt (refine' kmk_slice (by k_asm) (by k_asm) (by kmk_list) (by kmk_part) (by kmk_part) ?_ (by with_unfolding_all rfl) (by kmk_pure) (by (show _ ≤ 16777216; omega))); intro D' h' F' N' l1; (try k_lt l1); (try k_sweep))) | (with_reducible ((with_reducible show wpAny _ _ (compareOp .Eq (Value.ref _) (Value.ref _)) _ _ _); first | (first | refine eq_empty_yes (by k_asm) (by repeat (first | with_reducible assumption | exact List.Mem.head _ | refine memS ?_)) (by exact List.Mem.head _) (by ((try simp only [units_deeper, units_in1, ktrTop, cLine_is]); omega)) ?_ | refine eq_empty_no (by k_asm) (by repeat (first | with_reducible assumption | exact List.Mem.head _ | refine memS ?_)) (by exact List.Mem.head _) (by ((try simp only [units_deeper, units_in1, ktrTop, cLine_is]); omega)) ?_) | k_dflt (first | refine eq_empty_yes (by k_asm) (by repeat (first | with_reducible assumption | exact List.Mem.head _ | refine memS ?_)) (by exact List.Mem.head _) (by ((try simp only [units_deeper, units_in1, ktrTop, cLine_is]); omega)) ?_ | refine eq_empty_no (by k_asm) (by repeat (first | with_reducible assumption | exact List.Mem.head _ | refine memS ?_)) (by exact List.Mem.head _) (by ((try simp only [units_deeper, units_in1, ktrTop, cLine_is]); omega)) ?_))) | ((with_reducible show wpAny _ _ (call (Value.builtin "len") [Value.ref _]) _ _ _); k_dflt (refine my_lenL (by k_asm) (by repeat (first | with_reducible assumption | exact List.Mem.head _ | refine memS ?_)) (by omega) ?_); intro _ _))) | (k_unfold; (try dsimp only)) | (k_end; wrow_close) | walk1 | (dsimp only; walk1) | (leave1; (try dsimp only))))
        (refine ⟨_, _, rfl, ?_⟩; intro G k; exact Jn.un9 (k g3 _ _ _ _ _ _ _ (by k_asm) (by k_asm) (by repeat (first | exact nm_nil | refine nm_cons (by with_unfolding_all rfl) ?_))) ⟨hsub, hrwm, hqam, hasked, rows_refl, T3, K3, X3, P3⟩)
    case hshort =>
      intro rs news' g2 h' tk' ex hE hled hR F' hU
      obtain ⟨hsub, ec, hrwm, refs, ep, hqam, hasked⟩ := hled
      obtain ⟨e1, e2, e3⟩ := said_short hsd hE
      subst e1 e2 e3
      k_unfold
      try dsimp only
      refine Jn.noteX hR rfl rfl hU ?_
      intro h2 R2 U2
      refine Jn.passX R2 rfl F' B1 U2 XB TB ?T0 ?k0
      case T0 =>
        refine' Jn.testX ?n ?x ?hk ?hx ?hd
        case n => kts_nm
        case x => kts_exm
        case hk => exact rfl
        case hx => exact rfl
        case hd => decide
      case k0 =>
      intro h4 R4 U4
      refine Jn.hitX R4 rfl F' B1 U4 XB TB D1 ?T ?k ?hE
      case T =>
        refine' Jn.testX ?n ?x ?hk ?hx ?hd
        case n => kts_nm
        case x => kts_exm
        case hk => exact rfl
        case hx => exact rfl
        case hd => decide
      case hE => first | passes_own | with_unfolding_all passes_own
      case k =>
        intro h3 g3 T3 F3 N3 K3 X3 P3 D3
        (repeat' (first | ((with_reducible refine Blk.into ?_); (first | (with_reducible ((with_reducible show wpAny _ _ (subscriptTail _ _ (Value.ref _) (Value.int _ _)) _ _ _); (k_dflt (refine my_item (by k_asm) (by repeat (first | with_reducible assumption | refine memS ?_)) (by decide) (by decide) (by with_unfolding_all rfl) ?_ (by with_unfolding_all rfl))); (try simp only [Int.reduceToNat, List.getElem_toArray, List.getElem_cons_zero, List.getElem_cons_succ]))) | (with_reducible ((with_reducible show wpAny _ _ (subscriptTail _ _ (Value.ref _) (Value.int _ _)) _ _ _); (k_dflt (refine item_tupleT (News.isTup (by k_asm) (by repeat (first | with_reducible assumption | refine memS ?_))) (by decide) (by decide) (by rfl) (by rfl) ?_)))) | (with_reducible ((with_reducible show wpAny _ _ (binaryOp .Pow (Value.int 2 _) (Value.int _ _)) _ _ _); (refine my_pow (by omega) (by omega) ?_); intro v' p' e'; cases p'; (try replace e' := pow32 e'); (try replace e' := pow64 e'))) | (with_reducible ((with_reducible show wpAny _ _ (binaryOp .Mod (Value.int _ _) (Value.int _ _)) _ _ _); (refine my_mod (by omega) ?_); intro r' e' r0' r1')) | (with_reducible ((with_reducible show wpAny _ _ (binaryOp .Mult (Value.int _ _) (Value.int _ _)) _ _ _); (refine my_mul (by omega) ?_))) | (with_reducible ((with_reducible show wpAny _ _ (binaryOp .FloorDiv (Value.int _ _) (Value.int _ _)) _ _ _); (refine my_fdiv (by omega) (by omega) ?_); intro q' e' b')) | (with_reducible ((with_reducible show wpAny _ _ (binaryOp .BitXor (Value.int _ _) (Value.int 1 _)) _ _ _); (refine my_xor ?_); intro x' e')) | (with_reducible ((with_reducible show wpAny _ _ (call (Value.ref 137) _) _ _ _); k_dflt (refine' record_call ?_ (by exact ⟨by k_asm, by k_asm, by k_asm, by k_asm, by k_asm, by first | exact rfl | (first | with_reducible assumption | assumption), by (simp only [depth_deeper, depth_in1, ktrTop]; omega), by (simp only [units_deeper, units_in1, ktrTop]; omega)⟩) (by repeat (first | with_reducible assumption | exact List.Mem.head _ | refine memS ?_)) ?_; · rfl); intro t' h' tk' F' N'; (try k_sweep))) | (with_reducible ((with_reducible show wpAny _ _ (call (Value.ref 130) _) _ _ _); k_dflt (refine low_call (by omega) (by exact ⟨by k_asm, by k_asm, by k_asm, by k_asm, by k_asm, by first | exact rfl | (first | with_reducible assumption | assumption), by (simp only [depth_deeper, depth_in1, ktrTop]; omega), by (simp only [units_deeper, units_in1, ktrTop]; omega)⟩) ?_); intro t' h' tk' F' N'; (try k_sweep))) | (with_reducible ((with_reducible show wpAny _ _ (call (Value.ref 151) _) _ _ _); k_dflt (refine back_call (by omega) (by omega) (by omega) (by omega) (by exact ⟨by k_asm, by k_asm, by k_asm, by k_asm, by k_asm, by first | exact rfl | (first | with_reducible assumption | assumption), by (simp only [depth_deeper, depth_in1, ktrTop]; omega), by (simp only [units_deeper, units_in1, ktrTop]; omega)⟩) ?_); intro V' P' D' uV' uP' c' h' tk' eV' eP0' eP1' F' N' l1'; (have l1' := allLt_of l1'); (simp only [AllLt] at l1'); (try k_sweep))) | (with_reducible ((with_reducible show wpAny _ _ (binaryOp .Add (Value.bytes _ _) (Value.bytes _ _)) _ _ _); ((first | (with_reducible refine my_badd ?_ ?_) | refine my_badd (a := [_, _, _, _]) ?_ ?_ | refine my_badd ?_ ?_); · (simp only [List.length_append, lowL_length, List.length_cons, List.length_nil]; omega)); intro t' tk')) | (with_reducible ((with_reducible show wpAny _ _ (subscriptTail _ (Expr.Slice none (some (Expr.Name ("cut" : Str) _)) none _) (Value.ref _) (Value.ref _)) _ _ _); k_dflt (refine' kmk_slice (by k_asm) (by k_asm) (by kmk_list) (by kmk_part) (by kmk_part) ?_ (by with_unfolding_all rfl) (by kmk_pure) (by (show _ ≤ 16777216; omega))); intro D' h' F' N' l1; (try k_lt l1); (try k_sweep))) | (with_reducible ((with_reducible show wpAny _ _ (compareOp .Eq (Value.ref _) (Value.ref _)) _ _ _); first | (first | refine eq_empty_yes (by k_asm) (by repeat (first | with_reducible assumption | exact List.Mem.head _ | refine memS ?_)) (by exact List.Mem.head _) (by ((try simp only [units_deeper, units_in1, ktrTop, cLine_is]); omega)) ?_ | refine eq_empty_no (by k_asm) (by repeat (first | with_reducible assumption | exact List.Mem.head _ | refine memS ?_)) (by exact List.Mem.head _) (by ((try simp only [units_deeper, units_in1, ktrTop, cLine_is]); omega)) ?_) | k_dflt (first | refine eq_empty_yes (by k_asm) (by repeat (first | with_reducible assumption | exact List.Mem.head _ | refine memS ?_)) (by exact List.Mem.head _) (by ((try simp only [units_deeper, units_in1, ktrTop, cLine_is]); omega)) ?_ | refine eq_empty_no (by k_asm) (by repeat (first | with_reducible assumption | exact List.Mem.head _ | refine memS ?_)) (by exact List.Mem.head _) (by ((try simp only [units_deeper, units_in1, ktrTop, cLine_is]); omega)) ?_))) | ((with_reducible show wpAny _ _ (call (Value.builtin "len") [Value.ref _]) _ _ _); k_dflt (refine my_lenL (by k_asm) (by repeat (first | with_reducible assumption | exact List.Mem.head _ | refine memS ?_)) (by omega) ?_); intro _ _))) | (k_unfold; (try dsimp only)) | (k_end; wrow_close) | walk1 | (dsimp only; walk1) | (leave1; (try dsimp only))))
        (refine ⟨_, _, rfl, ?_⟩; intro G k; exact Jn.un9 (k g3 _ _ _ _ _ _ _ (by k_asm) (by k_asm) (by repeat (first | exact nm_nil | refine nm_cons (by with_unfolding_all rfl) ?_))) ⟨hsub, hrwm, hqam, hasked, rows_refl, T3, K3, X3, P3⟩)
  intro h20 tk20 hJ
  with_reducible refine hJ _ ?_
  clear hJ Jc
  rintro g' m20 na rowB refs crb cqb tc F20 N20 M20 hsub hrwm hqam hasked hrows T20 K20 X20 P20
  with_reducible refine fr_fold F20 M20 ?_
  clear F20
  intro mm F20
  clear M20 F19 N19 NE
  have hdu6 := hsub _ hdu5
  have hrd6 := hsub _ hrd5
  have hq7 := asked_mono hsub hq6
  have hnews6 := fun q hq => hsub q (hnews5 q hq)
  have h1536 := hsub _ h1535
  have hSna := fun q hq => hsub q (hSr q hq)
  obtain ⟨b0', b8', i1, i2, i3, i4, i5, i6, i7, i9, y0, y1, y2, y3, y4, y5, y6, y7, y8, y9, z0, z1, z2, z3, z4, z5, z6, z7, z8, z9, er1, er2⟩ := hrows
  rw [er1] at hrwm
  rw [er2] at hdu6
  clear hsd hdu4 hdu5 er1 er2 hrd4 hrd5 hq4 hq6 hS2 hSr hsk hrk hgs hgr hfs hfr hp5 hp4 hp3 hp2 hp1 hl1 hlo
  dsimp only [List.drop]
  (repeat' (first | (k_unfold; (try dsimp only)) | (k_end; wrow_close) | walk1 | (dsimp only; walk1) | (leave1; (try dsimp only))))
  refine Blk.into ?_
  refine eq_rows N20 hrwm hdu6 (by ((try simp only [units_deeper, units_in1, ktrTop, cLine_is]); omega)) ?_
  (repeat' (first | (k_unfold; (try dsimp only)) | (k_end; wrow_close) | walk1 | (dsimp only; walk1) | (leave1; (try dsimp only))))
  refine Blk.into ?_
  refine eq_asked N20 hqam hrd6 hasked hq7 (by ((try simp only [units_deeper, units_in1, ktrTop, cLine_is]); omega)) (by ((try simp only [units_deeper, units_in1, ktrTop, cLine_is]); omega)) ?_
  (repeat' (first | (k_unfold; (try dsimp only)) | (k_end; wrow_close) | walk1 | (dsimp only; walk1) | (leave1; (try dsimp only))))
  refine Blk.into ?_
  refine ⟨g', L1, _, na, T20, by k_asm, by k_asm, fun Fz Nz => ?_⟩
  obtain ⟨oc1, oc2, v1', v2', u1, u2, mm1, mm2, gg1, gg2, gg3, gg4⟩ := hH
  refine hret (hitTb k1 k2) [(k1, oc1), (k2, oc2)] (offL na [153]) _ _ (off_153 hnews6 hn153) ?_ ?_ (.inr ⟨k1, k2, rfl, oc1, oc2, v1', v2', u1, u2, .head _, .tail _ (.head _), gg1, gg2, gg3, gg4⟩) off_153n Fz (cb_drop Nz (List.forall_mem_cons.mpr ⟨h1536, offL_sub⟩))
  · exact List.forall_mem_cons.mpr ⟨code_153 Nz h1536 (hSna _ mm1) gg1 gg2, List.forall_mem_cons.mpr ⟨code_153 Nz h1536 (hSna _ mm2) gg3 gg4, List.forall_mem_nil _⟩⟩
  · exact List.forall_mem_cons.mpr ⟨(hS1 _ mm1).2.imp (fun h => h) fun h r hr => h r (.tail _ (hnews4 r hr)), List.forall_mem_cons.mpr ⟨(hS1 _ mm2).2.imp (fun h => h) fun h r hr => h r (.tail _ (hnews4 r hr)), List.forall_mem_nil _⟩⟩
end
end Mine01
end
namespace Mine01
theorem rest23 : True ∧ True := by w_top off; first | (walk1; all_goals trivial) | exact ⟨trivial, trivial⟩
end Mine01

section
namespace Mine01
open DivM Lp

def IntB (B : Int) (v : Value) : Prop := ∃ c t, v = .int c t ∧ (Builtin.Int.intBits c : Int) ≤ B
def Row12 (B : Int) (vs : List Value) : Prop := vs.length = 12 ∧ ∀ v ∈ vs, IntB B v
inductive Twelve (B : Int) (vs : List Value) : Prop
  | mk (c0 c1 c2 c3 c4 c5 c6 c7 c8 c9 c10 c11 : Int) (t0 t1 t2 t3 t4 t5 t6 t7 t8 t9 t10 t11 : Tok)
    (e : vs = [.int c0 t0, .int c1 t1, .int c2 t2, .int c3 t3, .int c4 t4, .int c5 t5, .int c6 t6, .int c7 t7, .int c8 t8, .int c9 t9, .int c10 t10, .int c11 t11])
    (b0 : (Builtin.Int.intBits c0 : Int) ≤ B) (b1 : (Builtin.Int.intBits c1 : Int) ≤ B) (b2 : (Builtin.Int.intBits c2 : Int) ≤ B) (b3 : (Builtin.Int.intBits c3 : Int) ≤ B) (b5 : (Builtin.Int.intBits c5 : Int) ≤ B) (b6 : (Builtin.Int.intBits c6 : Int) ≤ B) (b10 : (Builtin.Int.intBits c10 : Int) ≤ B) : Twelve B vs
inductive Pull (B : Int) (vs : List Value) (n : Nat) : Prop
  | mk (c : Int) (t : Tok) (r : List Value) (e : vs = .int c t :: r) (b : (Builtin.Int.intBits c : Int) ≤ B) (hl : r.length = n) (hr : ∀ v ∈ r, IntB B v) : Pull B vs n
theorem pull {B : Int} {vs : List Value} {n : Nat} (hl : vs.length = n + 1) (hb : ∀ v ∈ vs, IntB B v) : Pull B vs n := by
  cases vs with
  | nil => cases hl
  | cons v r =>
    obtain ⟨c, t, e, b⟩ := hb v (.head _)
    exact ⟨c, t, r, by rw [e], b, Nat.succ.inj hl, fun v hv => hb v (.tail _ hv)⟩
theorem row12_to {B : Int} {vs : List Value} (h : Row12 B vs) : Twelve B vs := by
  obtain ⟨c0, t0, r0, e0, b0, l0, h0⟩ := pull h.1 h.2
  obtain ⟨c1, t1, r1, e1, b1, l1, h1⟩ := pull l0 h0
  obtain ⟨c2, t2, r2, e2, b2, l2, h2⟩ := pull l1 h1
  obtain ⟨c3, t3, r3, e3, b3, l3, h3⟩ := pull l2 h2
  obtain ⟨c4, t4, r4, e4, b4, l4, h4⟩ := pull l3 h3
  obtain ⟨c5, t5, r5, e5, b5, l5, h5⟩ := pull l4 h4
  obtain ⟨c6, t6, r6, e6, b6, l6, h6⟩ := pull l5 h5
  obtain ⟨c7, t7, r7, e7, b7, l7, h7⟩ := pull l6 h6
  obtain ⟨c8, t8, r8, e8, b8, l8, h8⟩ := pull l7 h7
  obtain ⟨c9, t9, r9, e9, b9, l9, h9⟩ := pull l8 h8
  obtain ⟨c10, t10, r10, e10, b10, l10, h10⟩ := pull l9 h9
  obtain ⟨c11, t11, r11, e11, b11, l11, h11⟩ := pull l10 h10
  have e12 : r11 = [] := List.length_eq_zero_iff.mp l11
  exact ⟨c0, c1, c2, c3, c4, c5, c6, c7, c8, c9, c10, c11, t0, t1, t2, t3, t4, t5, t6, t7, t8, t9, t10, t11, by rw [e0, e1, e2, e3, e4, e5, e6, e7, e8, e9, e10, e11, e12], b0, b1, b2, b3, b5, b6, b10⟩
def RowO (o : Obj) : Prop := ∃ vs e, o = listOf (List.toArray vs) e ∧ Row12 20 vs
theorem bits_small {c : Int} (h : -1048576 < c) (h2 : c < 1048576) : (Builtin.Int.intBits c : Int) ≤ 20 := bits_abs (m := 20) (by omega) (by omega)
theorem bits_add {a b B : Int} (ha : (Builtin.Int.intBits a : Int) ≤ B) (hb : (Builtin.Int.intBits b : Int) ≤ B) : (Builtin.Int.intBits (a + b) : Int) ≤ B + 1 := by
  have h1 := bits_of a
  have h2 := bits_of b
  obtain ⟨n, rfl⟩ := Int.eq_ofNat_of_zero_le (by omega : 0 ≤ B)
  have p1 : (2 : Int) ^ Builtin.Int.intBits a ≤ 2 ^ n := by exact_mod_cast Nat.pow_le_pow_right (by decide) (by omega : Builtin.Int.intBits a ≤ n)
  have p2 : (2 : Int) ^ Builtin.Int.intBits b ≤ 2 ^ n := by exact_mod_cast Nat.pow_le_pow_right (by decide) (by omega : Builtin.Int.intBits b ≤ n)
  have := bits_abs (a := a + b) (m := n + 1) (by rw [Int.pow_succ]; omega) (by rw [Int.pow_succ]; omega)
  omega
theorem row_lit {a : Array Value} {e : Nat} (hs : a.toList.length = 12) (h : ∀ v ∈ a.toList, ∃ c t, v = .int c t ∧ -1048576 < c ∧ c < 1048576) : RowO (listOf a e) :=
  ⟨a.toList, e, by simp, hs, fun v hv => let ⟨c, t, e1, e2, e3⟩ := h v hv; ⟨c, t, e1, bits_small e2 e3⟩⟩
theorem law_led {g h : Heap} {L rA rB rC rD ck cr cs : Addr} {oA oB oC oD ok orr os : Obj} (N : News g L h [(rD, oD), (rC, oC), (rB, oB), (rA, oA), (ck, ok), (cr, orr), (cs, os), (153, tabObj #[])]) :
    News g L h ((ck, ok) :: (cr, orr) :: (cs, os) :: (153, tabObj #[]) :: [(rD, oD), (rC, oC), (rB, oB), (rA, oA)]) := cb_drop N fun q hq => by
  simp only [List.mem_cons, List.not_mem_nil, or_false] at hq ⊢
  rcases hq with h | h | h | h | h | h | h | h <;> simp [h]
theorem my_itemB {prog : Program} {w : World} {A : Around} {E : Value → Shared → Prop} {s : Shared} {h₀ : Heap} {L : Addr} {news : List (Addr × Obj)} {value slice : Expr} {l : Addr} {vs : List Value} {c : Nat} {k B : Int} {u : Tok} {Q : Value → Shared → Prop}
    (N : News h₀ L s.heap news) (hm : (l, listOf vs.toArray c) ∈ news) (h0 : 0 ≤ k) (hk : k < 12) (hb : Row12 B vs) (h : ∀ x t, (Builtin.Int.intBits x : Int) ≤ B → Q (.int x t) s)
    (hs : subscripted slice false (.ref l) (.int k u) = operate [.ref l, .int k u] (getItem (.ref l) (.int k u)) := by with_unfolding_all rfl) :
    wpAny (model prog w) A (subscriptTail value slice (.ref l) (.int k u)) Q E s := by
  have hl : s.heap.IsList l vs.toArray := ⟨_, (N _ hm).1, rfl, _, rfl⟩
  have hj : k.toNat < vs.length := by rw [hb.1]; omega
  obtain ⟨x, t, e, hx⟩ := hb.2 _ (List.getElem_mem hj)
  exact tail_any hl.typeIs slot_list_getitem.lookup (wpAny_getItem_list hl h0 (by omega) (show vs.toArray[k.toNat]? = some (.int x t) by simp only [List.getElem?_toArray]; rw [List.getElem?_eq_getElem hj, e]) (h x t hx)) hs
theorem my_itemS {prog : Program} {w : World} {A : Around} {E : Value → Shared → Prop} {s : Shared} {h₀ : Heap} {L : Addr} {m : Str → Option Value} {value slice : Expr} {l : Addr} {vs : List Value} {k B : Int} {u : Tok} {Q : Value → Shared → Prop}
    (F : Fr h₀ L s.heap m) (hm : h₀.IsList l vs.toArray) (h0 : 0 ≤ k) (hk : k < (vs.length : Int)) (hz : vs.length ≤ 100) (hb : ∀ v ∈ vs, IntB B v) (h : ∀ x t, (Builtin.Int.intBits x : Int) ≤ B → Q (.int x t) s)
    (hs : subscripted slice false (.ref l) (.int k u) = operate [.ref l, .int k u] (getItem (.ref l) (.int k u)) := by with_unfolding_all rfl) :
    wpAny (model prog w) A (subscriptTail value slice (.ref l) (.int k u)) Q E s := by
  have hl : s.heap.IsList l vs.toArray := by
    obtain ⟨o, e, r⟩ := hm
    exact ⟨o, F.keep _ _ e, r⟩
  have hj : k.toNat < vs.length := by omega
  obtain ⟨x, t, e, hx⟩ := hb _ (List.getElem_mem hj)
  exact tail_any hl.typeIs slot_list_getitem.lookup (wpAny_getItem_list hl h0 (by omega) (show vs.toArray[k.toNat]? = some (.int x t) by simp only [List.getElem?_toArray]; rw [List.getElem?_eq_getElem hj, e]) (h x t hx)) hs
theorem ints_bits {vs : List Value} {ns : List Int} (hI : IntsAre vs ns) (h : (PyData.list (List.map PyData.int ns)).layable0 = true) : ∀ v ∈ vs, IntB (2 ^ 20) v := by
  have key : ∀ n ∈ ns, (Builtin.Int.intBits n : Int) ≤ 2 ^ 20 := fun n hn => by
    have := PyData.bits_item_of_ints h hn
    omega
  clear h
  induction hI with
  | nil => intro v hv; cases hv
  | cons n t r ih =>
    intro v hv
    rcases List.mem_cons.mp hv with rfl | hv
    · exact ⟨n, t, rfl, key n (by simp)⟩
    · exact ih (fun m hm => key m (by simp [hm])) v hv
theorem ints_len {vs : List Value} {ns : List Int} (hI : IntsAre vs ns) : vs.length = ns.length := by
  induction hI with
  | nil => rfl
  | cons n t r ih => simp [ih]
theorem my_listcopy {prog : Program} {w : World} {A : Around} {E : Value → Shared → Prop} {s : Shared} {h₀ : Heap} {L : Addr} {m : Str → Option Value} {news : List (Addr × Obj)} {l : Addr} {vs : List Value} {c : Nat} {B : Int} {Q : Value → Shared → Prop}
    (F : Fr h₀ L s.heap m) (N : News h₀ L s.heap news) (hm : (l, listOf vs.toArray c) ∈ news) (hb : Row12 B vs)
    (h : ∀ D c h', Fr h₀ L h' m → News h₀ L h' ((D, listOf vs.toArray c) :: news) → (∀ q ∈ news, q.1 < D) → Q (.ref D) { s with heap := h' }) : wpAny (model prog w) A (call (.type "list") [.ref l]) Q E s :=
  list_copyK F N ⟨_, (N _ hm).1, rfl, _, rfl⟩ h (by have := hb.1; show vs.toArray.size ≤ 16777216; simp only [List.size_toArray]; omega)
theorem row_mono {B C : Int} {vs : List Value} (h : Row12 B vs) (hBC : B ≤ C) : Row12 C vs := ⟨h.1, fun v hv => let ⟨c, t, e, hb⟩ := h.2 v hv; ⟨c, t, e, by omega⟩⟩
def IntsN (B : Int) (i : Nat) (ys : List Value) : Prop := ys.length = i ∧ ∀ v ∈ ys, IntB B v
theorem ints_snoc {B : Int} {i : Nat} {ys : List Value} {y : Int} {t : Tok} (h : IntsN B i ys) (hy : (Builtin.Int.intBits y : Int) ≤ B) : IntsN B (i + 1) (ys ++ [Value.int y t]) := by
  refine ⟨by simp [h.1], fun v hv => ?_⟩
  rcases List.mem_append.mp hv with hv | hv
  · exact h.2 v hv
  · rw [List.mem_singleton.mp hv]
    exact ⟨y, t, rfl, hy⟩
theorem ints_getD {ns : List Int} (h : (PyData.list (List.map PyData.int ns)).layable0 = true) (j : Nat) : (Builtin.Int.intBits (ns.getD j 0) : Int) ≤ 2 ^ 20 := by
  rw [List.getD_eq_getElem?_getD]
  by_cases hj : j < ns.length
  · rw [List.getElem?_eq_getElem hj, Option.getD_some]
    have := PyData.bits_item_of_ints h (List.getElem_mem hj)
    omega
  · rw [List.getElem?_eq_none (by omega), Option.getD_none]
    decide
theorem my_item3 {prog : Program} {w : World} {A : Around} {E : Value → Shared → Prop} {s : Shared} {h₀ : Heap} {L : Addr} {news nx : List (Addr × Obj)} {value slice : Expr} {l rA rB rC : Addr} {c eA eB eC : Nat} {vA vB vC : List Value} {k : Int} {u : Tok} {Q : Value → Shared → Prop}
    (N : News h₀ L s.heap news) (hm : (l, listOf #[.ref rA, .ref rB, .ref rC] c) ∈ news) (hk : k = 0 ∨ k = 1 ∨ k = 2)
    (hA : (rA, listOf vA.toArray eA) ∈ nx) (hB : (rB, listOf vB.toArray eB) ∈ nx) (hC : (rC, listOf vC.toArray eC) ∈ nx) (ra : Row12 20 vA) (rb : Row12 20 vB) (rc : Row12 20 vC)
    (h : ∀ r v e, (r, listOf (List.toArray v) e) ∈ nx → Row12 20 v → Q (.ref r) s)
    (hs : subscripted slice false (.ref l) (.int k u) = operate [.ref l, .int k u] (getItem (.ref l) (.int k u)) := by with_unfolding_all rfl) :
    wpAny (model prog w) A (subscriptTail value slice (.ref l) (.int k u)) Q E s := by
  rcases hk with rfl | rfl | rfl
  · exact my_item N hm (by decide) (by decide) rfl (h _ _ _ hA ra) hs
  · exact my_item N hm (by decide) (by decide) rfl (h _ _ _ hB rb) hs
  · exact my_item N hm (by decide) (by decide) rfl (h _ _ _ hC rc) hs
local macro_rules | `(tactic| walk_at "pyIter ref") => `(tactic| refine Blk.out ?_)
local macro_rules | `(tactic| walk_at "exec For Name Call cons nil") => `(tactic| refine Blk.out ?_)
local macro_rules | `(tactic| walk_at "exec Assign cons ListComp") => `(tactic| refine Blk.out ?_)
local macro_rules | `(tactic| walk_at "CompSrc") => `(tactic| refine Blk.out ?_)
local macro_rules | `(tactic| walk_at "call ref") => `(tactic| refine Blk.out ?_)
local macro_rules | `(tactic| walk_at "binaryOp Mod int int") => `(tactic| refine Blk.out ?_)
theorem stLa1 {M A Q E s y0 y1 y2 y3 y4 y5 y6} (h : Blk (wpAny M A (execs (Stmt.Assign [Expr.Name ("cells" : Str) y0] y1 y2 :: y3 :: y4 :: y5) y6) Q E s)) : wpAny M A (execs (Stmt.Assign [Expr.Name ("cells" : Str) y0] y1 y2 :: y3 :: y4 :: y5) y6) Q E s := h
local macro_rules | `(tactic| walk_at "execs cons Assign") => `(tactic| with_reducible refine stLa1 ?_)
theorem stLa2 {M A Q E s y0 y1 y2 y3 y4} (h : Blk (wpAny M A (subscriptTail y0 y1 (Value.ref y2) (Value.int y3 y4)) Q E s)) : wpAny M A (subscriptTail y0 y1 (Value.ref y2) (Value.int y3 y4)) Q E s := h
local macro_rules | `(tactic| walk_at "subscriptTail") => `(tactic| with_reducible refine stLa2 ?_)
theorem stLa3 {M A Q E s y0} (h : Blk (wpAny M A (call (Value.type "list") [Value.ref y0]) Q E s)) : wpAny M A (call (Value.type "list") [Value.ref y0]) Q E s := h
local macro_rules | `(tactic| walk_at "call type:list") => `(tactic| with_reducible refine stLa3 ?_)
theorem law_holds : PySem.Challenge.rw_kl0458_01.Holds := by
  refine hd ?_
  k_go0
  rename_i ok orr os dk dr ds X0 XX TT KK FF NN l0
  rename Shared => s1
  rename World => ww
  rename List Int => ns
  rename List Value => vs
  rename IntsAre _ _ => hI
  rename PyData.layable0 _ = true => hLay
  rename ¬ _ < _ => hc1
  replace dk := dk.trans (by with_unfolding_all rfl : _ = Data.cell none)
  replace dr := dr.trans (by with_unfolding_all rfl : _ = Data.cell none)
  replace ds := ds.trans (by with_unfolding_all rfl : _ = Data.cell (some (.ref _)))
  have hb := ints_bits hI hLay
  have hl := ints_len hI
  have hbn := ints_getD hLay
  have hS := lifted
  have hC := codeHd
  clear lifted codeHd X0
  (repeat' (first | ((with_reducible refine Blk.into ?_); (first | ((with_reducible show wpAny _ _ (subscriptTail _ _ (Value.ref _) (Value.int _ _)) _ _ _); k_dflt (first | (refine my_item3 (by k_asm) (by repeat (first | with_reducible assumption | refine memS ?_)) (by with_reducible assumption) (by with_reducible assumption) (by with_reducible assumption) (by with_reducible assumption) rowA' rowB' rowC' ?_ (by with_unfolding_all rfl); intro rr vv ee hrr hrw) | (refine my_item (by k_asm) (by repeat (first | with_reducible assumption | refine memS ?_)) (by decide) (by decide) (by with_unfolding_all rfl) ?_ (by with_unfolding_all rfl)) | (refine my_itemB (by k_asm) (by repeat (first | with_reducible assumption | refine memS ?_)) (by omega) (by omega) (by assumption) ?_ (by with_unfolding_all rfl); intro xq tq bq) | (refine my_itemS (by k_asm) (by with_reducible assumption) (by omega) (by omega) (by omega) (by with_reducible assumption) ?_ (by with_unfolding_all rfl); intro xq tq bq)); (try simp only [Int.reduceToNat, List.getElem_toArray, List.getElem_cons_zero, List.getElem_cons_succ])) | ((with_reducible show wpAny _ _ (call (Value.type "list") [Value.ref _]) _ _ _); (k_dflt (refine my_listcopy (by k_asm) (by k_asm) (by repeat (first | with_reducible assumption | refine memS ?_)) (by assumption) ?_)); intro Dq cq hq Fq Nq lq1; (try k_lt lq1); (try k_sweep)) | (with_reducible ((show wpAny _ _ (binaryOp .Mod (Value.int _ _) (Value.int _ _)) _ _ _); (refine my_mod (by omega) ?_); intro rq eq rq0 rq1)))) | (k_unfold; (try dsimp only)) | (k_end; wrow_close) | walk1 | (dsimp only; walk1) | (leave1; (try dsimp only))))
  rename_i rA hA lA rB hB lB rC hC' lC rD hD' lD hE orr' F1 N1 dr1
  obtain ⟨oA, oB, oC, N0, iA, iB, iC⟩ : ∃ oA oB oC, News (ghostOf s1.heap [(157, 153)]) s1.heap.objs.size hE ((s1.heap.objs.size + 1 + 1 + 1, ok) :: (s1.heap.objs.size + 1 + 1, orr') :: (s1.heap.objs.size + 1, os) :: (153, tabObj #[]) :: [(rD, listOf #[.ref rA, .ref rB, .ref rC] 0), (rC, oC), (rB, oB), (rA, oA)]) ∧ RowO oA ∧ RowO oB ∧ RowO oC :=
    ⟨_, _, _, law_led N1, row_lit rfl (by simp), row_lit rfl (by simp), row_lit rfl (by simp)⟩
  clear N1 hA hB hC' hD'
  obtain ⟨vA, eA, rfl, rowA'⟩ := iA
  obtain ⟨vB, eB, rfl, rowB'⟩ := iB
  obtain ⟨vC, eC, rfl, rowC'⟩ := iC
  refine Blk.into ?_
  with_unfolding_all refine' For_turns F1 ?h ?hs ?hE
  case hs => intro _; rfl
  case hE => first | passes_own | with_unfolding_all passes_own
  (repeat' (first | ((with_reducible refine Blk.into ?_); (first | ((with_reducible show wpAny _ _ (subscriptTail _ _ (Value.ref _) (Value.int _ _)) _ _ _); k_dflt (first | (refine my_item3 (by k_asm) (by repeat (first | with_reducible assumption | refine memS ?_)) (by with_reducible assumption) (by with_reducible assumption) (by with_reducible assumption) (by with_reducible assumption) rowA' rowB' rowC' ?_ (by with_unfolding_all rfl); intro rr vv ee hrr hrw) | (refine my_item (by k_asm) (by repeat (first | with_reducible assumption | refine memS ?_)) (by decide) (by decide) (by with_unfolding_all rfl) ?_ (by with_unfolding_all rfl)) | (refine my_itemB (by k_asm) (by repeat (first | with_reducible assumption | refine memS ?_)) (by omega) (by omega) (by assumption) ?_ (by with_unfolding_all rfl); intro xq tq bq) | (refine my_itemS (by k_asm) (by with_reducible assumption) (by omega) (by omega) (by omega) (by with_reducible assumption) ?_ (by with_unfolding_all rfl); intro xq tq bq)); (try simp only [Int.reduceToNat, List.getElem_toArray, List.getElem_cons_zero, List.getElem_cons_succ])) | ((with_reducible show wpAny _ _ (call (Value.type "list") [Value.ref _]) _ _ _); (k_dflt (refine my_listcopy (by k_asm) (by k_asm) (by repeat (first | with_reducible assumption | refine memS ?_)) (by assumption) ?_)); intro Dq cq hq Fq Nq lq1; (try k_lt lq1); (try k_sweep)) | (with_reducible ((show wpAny _ _ (binaryOp .Mod (Value.int _ _) (Value.int _ _)) _ _ _); (refine my_mod (by omega) ?_); intro rq eq rq0 rq1)))) | (k_unfold; (try dsimp only)) | (k_end; wrow_close) | walk1 | (dsimp only; walk1) | (leave1; (try dsimp only))))
  refine Blk.into ?_
  rename IsRange _ _ _ _ _ _ _ _ => hR
  rename Fr _ _ _ _ => F2
  rename News _ _ _ _ => N2
  refine' range_turns rfl hR (by rfl) (n := 3) (by rfl) F2 N2 (fun (i : Nat) m₁ n₁ => ∃ (okk : Obj) (tb : Array Value) (nx : List (Addr × Obj)), n₁ = (s1.heap.objs.size + 1 + 1 + 1, okk) :: (s1.heap.objs.size + 1 + 1, orr') :: (s1.heap.objs.size + 1, os) :: (153, tabObj tb) :: nx ∧ (∃ v, okk.data = .cell v) ∧ (∀ q ∈ [(rD, listOf #[.ref rA, .ref rB, .ref rC] 0), (rC, listOf vC.toArray eC), (rB, listOf vB.toArray eB), (rA, listOf vA.toArray eA)], q ∈ nx) ∧
    (∀ (q : Addr × Obj), q ∈ nx → ∀ a ∈ [s1.heap.objs.size + 1 + 1 + 1, s1.heap.objs.size + 1 + 1, s1.heap.objs.size + 1, 153], @Ne Nat q.1 a) ∧ TabOk tb nx) ?h0 ?turn ?done
  case h0 =>
    refine ⟨ok, #[], _, rfl, ⟨_, dk⟩, fun _ h => h, ?_, .inl rfl⟩
    intro q hq a ha
    simp only [List.mem_cons, List.not_mem_nil, or_false] at hq ha
    rcases hq with h | h | h | h <;> subst h <;> dsimp only <;> omega
  case done =>
    rintro h' tk m₁ n₁ ⟨okk, tb, nx, rfl, _⟩ Fx Nx
    (repeat' (first | ((with_reducible refine Blk.into ?_); (first | ((with_reducible show wpAny _ _ (subscriptTail _ _ (Value.ref _) (Value.int _ _)) _ _ _); k_dflt (first | (refine my_item3 (by k_asm) (by repeat (first | with_reducible assumption | refine memS ?_)) (by with_reducible assumption) (by with_reducible assumption) (by with_reducible assumption) (by with_reducible assumption) rowA' rowB' rowC' ?_ (by with_unfolding_all rfl); intro rr vv ee hrr hrw) | (refine my_item (by k_asm) (by repeat (first | with_reducible assumption | refine memS ?_)) (by decide) (by decide) (by with_unfolding_all rfl) ?_ (by with_unfolding_all rfl)) | (refine my_itemB (by k_asm) (by repeat (first | with_reducible assumption | refine memS ?_)) (by omega) (by omega) (by assumption) ?_ (by with_unfolding_all rfl); intro xq tq bq) | (refine my_itemS (by k_asm) (by with_reducible assumption) (by omega) (by omega) (by omega) (by with_reducible assumption) ?_ (by with_unfolding_all rfl); intro xq tq bq)); (try simp only [Int.reduceToNat, List.getElem_toArray, List.getElem_cons_zero, List.getElem_cons_succ])) | ((with_reducible show wpAny _ _ (call (Value.type "list") [Value.ref _]) _ _ _); (k_dflt (refine my_listcopy (by k_asm) (by k_asm) (by repeat (first | with_reducible assumption | refine memS ?_)) (by assumption) ?_)); intro Dq cq hq Fq Nq lq1; (try k_lt lq1); (try k_sweep)) | (with_reducible ((show wpAny _ _ (binaryOp .Mod (Value.int _ _) (Value.int _ _)) _ _ _); (refine my_mod (by omega) ?_); intro rq eq rq0 rq1)))) | (k_unfold; (try dsimp only)) | (k_end; wrow_close) | walk1 | (dsimp only; walk1) | (leave1; (try dsimp only))))
  case turn =>
    rintro I i t m₁ n₁ h₁ tk₁ it hi ⟨okk, tb, nx, rfl, ⟨kv, hkd⟩, hrs, hoff4, htb⟩ hoff Fx Nx
    have hrD := hrs _ (.head _)
    have hrC := hrs _ (.tail _ (.head _))
    have hrB := hrs _ (.tail _ (.tail _ (.head _)))
    have hrA := hrs _ (.tail _ (.tail _ (.tail _ (.head _))))
    have hn1 : ∀ (q : Addr × Obj), q ∈ nx → q.1 ≠ s1.heap.objs.size + 1 + 1 + 1 := fun q hq => hoff4 q hq _ (.head _)
    have hn2 : ∀ (q : Addr × Obj), q ∈ nx → q.1 ≠ s1.heap.objs.size + 1 + 1 := fun q hq => hoff4 q hq _ (.tail _ (.head _))
    have hn3 : ∀ (q : Addr × Obj), q ∈ nx → q.1 ≠ s1.heap.objs.size + 1 := fun q hq => hoff4 q hq _ (.tail _ (.tail _ (.head _)))
    have hn4 : ∀ (q : Addr × Obj), q ∈ nx → q.1 ≠ 153 := fun q hq => hoff4 q hq _ (.tail _ (.tail _ (.tail _ (.head _))))
    have Fx : Fr (ghostOf s1.heap [(157, 153)]) s1.heap.objs.size h₁ m₁ := Fx
    have Nx : News (ghostOf s1.heap [(157, 153)]) s1.heap.objs.size h₁ ((I, it) :: (s1.heap.objs.size + 1 + 1 + 1, okk) :: (s1.heap.objs.size + 1 + 1, orr') :: (s1.heap.objs.size + 1, os) :: (153, tabObj tb) :: nx) := Nx
    have hI1 : @Ne Nat (s1.heap.objs.size + 1 + 1 + 1) I := hoff _ (.head _)
    have hI2 : @Ne Nat (s1.heap.objs.size + 1 + 1) I := hoff _ (.tail _ (.head _))
    have hI3 : @Ne Nat (s1.heap.objs.size + 1) I := hoff _ (.tail _ (.tail _ (.head _)))
    have hI4 : @Ne Nat 153 I := hoff _ (.tail _ (.tail _ (.tail _ (.head _))))
    have hI5 : ∀ (q : Addr × Obj), q ∈ nx → q.1 ≠ I := fun q hq => hoff q (.tail _ (.tail _ (.tail _ (.tail _ hq))))
    obtain ⟨kk, hkk⟩ : ∃ kk : Int, kk = 0 + (i : Int) := ⟨_, rfl⟩
    rw [← hkk]
    have hk3 : kk = 0 ∨ kk = 1 ∨ kk = 2 := by omega
    (repeat' (first | ((with_reducible refine Blk.into ?_); (first | ((with_reducible show wpAny _ _ (subscriptTail _ _ (Value.ref _) (Value.int _ _)) _ _ _); k_dflt (first | (refine my_item3 (by k_asm) (by repeat (first | with_reducible assumption | refine memS ?_)) (by with_reducible assumption) (by with_reducible assumption) (by with_reducible assumption) (by with_reducible assumption) rowA' rowB' rowC' ?_ (by with_unfolding_all rfl); intro rr vv ee hrr hrw) | (refine my_item (by k_asm) (by repeat (first | with_reducible assumption | refine memS ?_)) (by decide) (by decide) (by with_unfolding_all rfl) ?_ (by with_unfolding_all rfl)) | (refine my_itemB (by k_asm) (by repeat (first | with_reducible assumption | refine memS ?_)) (by omega) (by omega) (by assumption) ?_ (by with_unfolding_all rfl); intro xq tq bq) | (refine my_itemS (by k_asm) (by with_reducible assumption) (by omega) (by omega) (by omega) (by with_reducible assumption) ?_ (by with_unfolding_all rfl); intro xq tq bq)); (try simp only [Int.reduceToNat, List.getElem_toArray, List.getElem_cons_zero, List.getElem_cons_succ])) | ((with_reducible show wpAny _ _ (call (Value.type "list") [Value.ref _]) _ _ _); (k_dflt (refine my_listcopy (by k_asm) (by k_asm) (by repeat (first | with_reducible assumption | refine memS ?_)) (by assumption) ?_)); intro Dq cq hq Fq Nq lq1; (try k_lt lq1); (try k_sweep)) | (with_reducible ((show wpAny _ _ (binaryOp .Mod (Value.int _ _) (Value.int _ _)) _ _ _); (refine my_mod (by omega) ?_); intro rq eq rq0 rq1)))) | (k_unfold; (try dsimp only)) | (k_end; wrow_close) | walk1 | (dsimp only; walk1) | (leave1; (try dsimp only))))
    refine Blk.into ?_
    rename Fr _ _ _ _ => F3
    rename News _ _ _ _ => N3
    let Jc : Heap → Prop := fun h' => ∀ G : Prop, (∀ (m' : Str → Option Value) (cc : Addr) (vs' : List Value) (e' : Nat) (okk2 : Obj) (nx2 : List (Addr × Obj)), Fr (ghostOf s1.heap [(157, 153)]) s1.heap.objs.size h' m' → News (ghostOf s1.heap [(157, 153)]) s1.heap.objs.size h' ((I, it) :: (s1.heap.objs.size + 1 + 1 + 1, okk2) :: (s1.heap.objs.size + 1 + 1, orr') :: (s1.heap.objs.size + 1, os) :: (153, tabObj tb) :: nx2) → NmAre m' [("cells", .ref cc)] → (Off nx2 nx [I, s1.heap.objs.size + 1 + 1 + 1, s1.heap.objs.size + 1 + 1, s1.heap.objs.size + 1, 153]) → ((cc, listOf (List.toArray vs') e') ∈ nx2) → (Row12 (2 ^ 20 + 1) vs') → (∃ v, okk2.data = .cell v) → G) → G
    with_reducible refine Jn.ckpt 2 Jc ?_ ?_
    · dsimp only [List.take, List.drop]
      k_fold
      (repeat' (first | ((with_reducible refine Blk.into ?_); (first | ((with_reducible show wpAny _ _ (subscriptTail _ _ (Value.ref _) (Value.int _ _)) _ _ _); k_dflt (first | (refine my_item3 (by k_asm) (by repeat (first | with_reducible assumption | refine memS ?_)) (by with_reducible assumption) (by with_reducible assumption) (by with_reducible assumption) (by with_reducible assumption) rowA' rowB' rowC' ?_ (by with_unfolding_all rfl); intro rr vv ee hrr hrw) | (refine my_item (by k_asm) (by repeat (first | with_reducible assumption | refine memS ?_)) (by decide) (by decide) (by with_unfolding_all rfl) ?_ (by with_unfolding_all rfl)) | (refine my_itemB (by k_asm) (by repeat (first | with_reducible assumption | refine memS ?_)) (by omega) (by omega) (by assumption) ?_ (by with_unfolding_all rfl); intro xq tq bq) | (refine my_itemS (by k_asm) (by with_reducible assumption) (by omega) (by omega) (by omega) (by with_reducible assumption) ?_ (by with_unfolding_all rfl); intro xq tq bq)); (try simp only [Int.reduceToNat, List.getElem_toArray, List.getElem_cons_zero, List.getElem_cons_succ])) | ((with_reducible show wpAny _ _ (call (Value.type "list") [Value.ref _]) _ _ _); (k_dflt (refine my_listcopy (by k_asm) (by k_asm) (by repeat (first | with_reducible assumption | refine memS ?_)) (by assumption) ?_)); intro Dq cq hq Fq Nq lq1; (try k_lt lq1); (try k_sweep)) | (with_reducible ((show wpAny _ _ (binaryOp .Mod (Value.int _ _) (Value.int _ _)) _ _ _); (refine my_mod (by omega) ?_); intro rq eq rq0 rq1)))) | (k_unfold; (try dsimp only)) | (k_end; wrow_close) | walk1 | (dsimp only; walk1) | (leave1; (try dsimp only))))
      · (refine ⟨_, _, rfl, ?_⟩; intro G k; refine Jn.un4 (k _ _ _ _ _ (offL _ [I, s1.heap.objs.size + 1 + 1 + 1, s1.heap.objs.size + 1 + 1, s1.heap.objs.size + 1, 153]) (by k_asm) (by ((rename News _ _ _ _ => dN); refine cb_drop dN ?_; (repeat (refine List.forall_mem_cons.mpr ⟨by repeat (first | with_reducible assumption | exact List.Mem.head _ | refine memS ?_), ?_⟩)); (first | exact offL_sub | repeat (first | exact fun _ h => h | with_reducible assumption | refine subT ?_)))) (by repeat (first | exact nm_nil | refine nm_cons (by with_unfolding_all rfl) ?_))) ⟨offL_off (by repeat (first | exact fun _ h => h | with_reducible assumption | refine subT ?_)) (by ((repeat (refine ine_cons (by first | with_reducible assumption | ((rename @LT.lt Nat _ _ _ ∧ _ => hh); (repeat (replace hh := hh.2)); exact allLt_ne hh (Nat.le_refl _))) ?_)); exact ine_nil)), by exact offL_mem (by repeat (first | with_reducible assumption | exact List.Mem.head _ | refine memS ?_)) (by ((repeat (refine i1_cons (by ((try dsimp only); first | with_reducible assumption | (symm; with_reducible assumption) | exact Cm.nl1 (by with_reducible assumption) | exact Cm.ng1 (by with_reducible assumption) | exact Cm.nl2 (by with_reducible assumption) | exact Cm.ng2 (by with_reducible assumption) | exact Cm.nl3 (by with_reducible assumption) | exact Cm.ng3 (by with_reducible assumption) | exact Cm.nl4 (by with_reducible assumption) | exact Cm.ng4 (by with_reducible assumption) | exact Cm.nl5 (by with_reducible assumption) | exact Cm.ng5 (by with_reducible assumption) | exact Cm.nl6 (by with_reducible assumption) | exact Cm.ng6 (by with_reducible assumption) | exact Cm.nl7 (by with_reducible assumption) | exact Cm.ng7 (by with_reducible assumption) | exact Cm.nn1 (by with_reducible assumption) | exact Cm.nm1 (by with_reducible assumption) | exact Cm.nn2 (by with_reducible assumption) | exact Cm.nm2 (by with_reducible assumption) | exact Cm.nn3 (by with_reducible assumption) | exact Cm.nm3 (by with_reducible assumption) | exact Cm.nn4 (by with_reducible assumption) | exact Cm.nm4 (by with_reducible assumption) | exact Cm.nn5 (by with_reducible assumption) | exact Cm.nm5 (by with_reducible assumption) | omega)) ?_)); exact i1_nil)), row_mono (by assumption) (by decide), _, by assumption⟩)
      · refine Blk.into ?_
        have hne : ns ≠ [] := by simpa using ‹decide (ns = []) = false›
        have hpos : 0 < ns.length := List.length_pos_iff.mpr hne
        refine LCg.Assign_ListComp_U (F₀ := by k_asm) (by rfl) (by with_unfolding_all rfl) (by with_unfolding_all rfl) (by decide) (by rfl) (by decide) (by rfl) (by rfl) (by rfl) ?_
        k_dflt (repeat (first | walk1 | (dsimp only; walk1)))
        refine Blk.into ?_
        refine Cp.range_all (n := 12) (fun i ys => IntsN (2 ^ 20 + 1) i ys) (by rfl) (by k_asm) (by k_asm) (by assumption) (by rfl) (by rfl) (by decide) ⟨rfl, fun v hv => nomatch hv⟩ ?_ ?_
        · intro g' i2 ys tv hi2 hj I2 oI C oC D m₂ h tk E' hC2 hx F' N' off' ne'
          (repeat' (first | ((with_reducible refine Blk.into ?_); (first | ((with_reducible show wpAny _ _ (subscriptTail _ _ (Value.ref _) (Value.int _ _)) _ _ _); k_dflt (first | (refine my_item3 (by k_asm) (by repeat (first | with_reducible assumption | refine memS ?_)) (by with_reducible assumption) (by with_reducible assumption) (by with_reducible assumption) (by with_reducible assumption) rowA' rowB' rowC' ?_ (by with_unfolding_all rfl); intro rr vv ee hrr hrw) | (refine my_item (by k_asm) (by repeat (first | with_reducible assumption | refine memS ?_)) (by decide) (by decide) (by with_unfolding_all rfl) ?_ (by with_unfolding_all rfl)) | (refine my_itemB (by k_asm) (by repeat (first | with_reducible assumption | refine memS ?_)) (by omega) (by omega) (by assumption) ?_ (by with_unfolding_all rfl); intro xq tq bq) | (refine my_itemS (by k_asm) (by with_reducible assumption) (by omega) (by omega) (by omega) (by with_reducible assumption) ?_ (by with_unfolding_all rfl); intro xq tq bq)); (try simp only [Int.reduceToNat, List.getElem_toArray, List.getElem_cons_zero, List.getElem_cons_succ])) | ((with_reducible show wpAny _ _ (call (Value.type "list") [Value.ref _]) _ _ _); (k_dflt (refine my_listcopy (by k_asm) (by k_asm) (by repeat (first | with_reducible assumption | refine memS ?_)) (by assumption) ?_)); intro Dq cq hq Fq Nq lq1; (try k_lt lq1); (try k_sweep)) | (with_reducible ((show wpAny _ _ (binaryOp .Mod (Value.int _ _) (Value.int _ _)) _ _ _); (refine my_mod (by omega) ?_); intro rq eq rq0 rq1)))) | (k_unfold; (try dsimp only)) | (k_end; wrow_close) | walk1 | (dsimp only; walk1) | (leave1; (try dsimp only))))
          exact LCg.CompEnd.intro (by k_asm) (by k_asm) _ (fun p hp => hp) off' True.intro ⟨rfl, ints_snoc hj (bits_add (B := 2 ^ 20) (by omega) (hbn _))⟩
        · intro g' ys hj
          unfold LCg.FinA
          intro D h' tk' F' N' o1'
          simp only [LCg.Off1] at o1'
          (repeat' (first | ((with_reducible refine Blk.into ?_); (first | ((with_reducible show wpAny _ _ (subscriptTail _ _ (Value.ref _) (Value.int _ _)) _ _ _); k_dflt (first | (refine my_item3 (by k_asm) (by repeat (first | with_reducible assumption | refine memS ?_)) (by with_reducible assumption) (by with_reducible assumption) (by with_reducible assumption) (by with_reducible assumption) rowA' rowB' rowC' ?_ (by with_unfolding_all rfl); intro rr vv ee hrr hrw) | (refine my_item (by k_asm) (by repeat (first | with_reducible assumption | refine memS ?_)) (by decide) (by decide) (by with_unfolding_all rfl) ?_ (by with_unfolding_all rfl)) | (refine my_itemB (by k_asm) (by repeat (first | with_reducible assumption | refine memS ?_)) (by omega) (by omega) (by assumption) ?_ (by with_unfolding_all rfl); intro xq tq bq) | (refine my_itemS (by k_asm) (by with_reducible assumption) (by omega) (by omega) (by omega) (by with_reducible assumption) ?_ (by with_unfolding_all rfl); intro xq tq bq)); (try simp only [Int.reduceToNat, List.getElem_toArray, List.getElem_cons_zero, List.getElem_cons_succ])) | ((with_reducible show wpAny _ _ (call (Value.type "list") [Value.ref _]) _ _ _); (k_dflt (refine my_listcopy (by k_asm) (by k_asm) (by repeat (first | with_reducible assumption | refine memS ?_)) (by assumption) ?_)); intro Dq cq hq Fq Nq lq1; (try k_lt lq1); (try k_sweep)) | (with_reducible ((show wpAny _ _ (binaryOp .Mod (Value.int _ _) (Value.int _ _)) _ _ _); (refine my_mod (by omega) ?_); intro rq eq rq0 rq1)))) | (k_unfold; (try dsimp only)) | (k_end; wrow_close) | walk1 | (dsimp only; walk1) | (leave1; (try dsimp only))))
          (refine ⟨_, _, rfl, ?_⟩; intro G k; exact Jn.un4 (k _ D ys _ _ (offL _ [I, s1.heap.objs.size + 1 + 1 + 1, s1.heap.objs.size + 1 + 1, s1.heap.objs.size + 1, 153]) (by k_asm) (by ((rename News _ _ _ _ => dN); refine cb_drop dN ?_; (repeat (refine List.forall_mem_cons.mpr ⟨by repeat (first | with_reducible assumption | exact List.Mem.head _ | refine memS ?_), ?_⟩)); (first | exact offL_sub | repeat (first | exact fun _ h => h | with_reducible assumption | refine subT ?_)))) (by repeat (first | exact nm_nil | refine nm_cons (by with_unfolding_all rfl) ?_))) ⟨offL_off (by repeat (first | exact fun _ h => h | with_reducible assumption | refine subT ?_)) (by ((repeat (refine ine_cons (by first | with_reducible assumption | ((rename @LT.lt Nat _ _ _ ∧ _ => hh); (repeat (replace hh := hh.2)); exact allLt_ne hh (Nat.le_refl _))) ?_)); exact ine_nil)), by exact offL_mem (by repeat (first | with_reducible assumption | exact List.Mem.head _ | refine memS ?_)) (by ((repeat (refine i1_cons (by ((try dsimp only); first | with_reducible assumption | (symm; with_reducible assumption) | exact Cm.nl1 (by with_reducible assumption) | exact Cm.ng1 (by with_reducible assumption) | exact Cm.nl2 (by with_reducible assumption) | exact Cm.ng2 (by with_reducible assumption) | exact Cm.nl3 (by with_reducible assumption) | exact Cm.ng3 (by with_reducible assumption) | exact Cm.nl4 (by with_reducible assumption) | exact Cm.ng4 (by with_reducible assumption) | exact Cm.nl5 (by with_reducible assumption) | exact Cm.ng5 (by with_reducible assumption) | exact Cm.nl6 (by with_reducible assumption) | exact Cm.ng6 (by with_reducible assumption) | exact Cm.nl7 (by with_reducible assumption) | exact Cm.ng7 (by with_reducible assumption) | exact Cm.nn1 (by with_reducible assumption) | exact Cm.nm1 (by with_reducible assumption) | exact Cm.nn2 (by with_reducible assumption) | exact Cm.nm2 (by with_reducible assumption) | exact Cm.nn3 (by with_reducible assumption) | exact Cm.nm3 (by with_reducible assumption) | exact Cm.nn4 (by with_reducible assumption) | exact Cm.nm4 (by with_reducible assumption) | exact Cm.nn5 (by with_reducible assumption) | exact Cm.nm5 (by with_reducible assumption) | omega)) ?_)); exact i1_nil)), hj, _, by assumption⟩)
    · intro h2 tk2 hJ
      with_reducible refine hJ _ ?_
      clear hJ Jc
      rintro m2 cc vs' e' okk2 nx2 F4 N4 M4 S5 hcc hrow ⟨kv2, hkd2⟩
      with_reducible refine fr_fold F4 M4 ?_
      clear F4
      intro mm F4
      obtain ⟨c0, c1, c2, c3, c4, c5, c6, c7, c8, c9, c10, c11, u0, u1, u2, u3, u4, u5, u6, u7, u8, u9, u10, u11, rfl, b0, b1, b2, b3, b5, b6, b10⟩ := row12_to hrow
      dsimp only [List.drop]
      (repeat' (first | ((with_reducible refine Blk.into ?_); (first | ((with_reducible show wpAny _ _ (subscriptTail _ _ (Value.ref _) (Value.int _ _)) _ _ _); k_dflt (first | (refine my_item3 (by k_asm) (by repeat (first | with_reducible assumption | refine memS ?_)) (by with_reducible assumption) (by with_reducible assumption) (by with_reducible assumption) (by with_reducible assumption) rowA' rowB' rowC' ?_ (by with_unfolding_all rfl); intro rr vv ee hrr hrw) | (refine my_item (by k_asm) (by repeat (first | with_reducible assumption | refine memS ?_)) (by decide) (by decide) (by with_unfolding_all rfl) ?_ (by with_unfolding_all rfl)) | (refine my_itemB (by k_asm) (by repeat (first | with_reducible assumption | refine memS ?_)) (by omega) (by omega) (by assumption) ?_ (by with_unfolding_all rfl); intro xq tq bq) | (refine my_itemS (by k_asm) (by with_reducible assumption) (by omega) (by omega) (by omega) (by with_reducible assumption) ?_ (by with_unfolding_all rfl); intro xq tq bq)); (try simp only [Int.reduceToNat, List.getElem_toArray, List.getElem_cons_zero, List.getElem_cons_succ])) | ((with_reducible show wpAny _ _ (call (Value.type "list") [Value.ref _]) _ _ _); (k_dflt (refine my_listcopy (by k_asm) (by k_asm) (by repeat (first | with_reducible assumption | refine memS ?_)) (by assumption) ?_)); intro Dq cq hq Fq Nq lq1; (try k_lt lq1); (try k_sweep)) | (with_reducible ((show wpAny _ _ (binaryOp .Mod (Value.int _ _) (Value.int _ _)) _ _ _); (refine my_mod (by omega) ?_); intro rq eq rq0 rq1)))) | (k_unfold; (try dsimp only)) | (k_end; wrow_close) | walk1 | (dsimp only; walk1) | (leave1; (try dsimp only))))
      refine Blk.into ?_
      k_dflt (refine' scene_call (M := 2 ^ 20 + 1) (old := nx) (news := (I, it) :: (s1.heap.objs.size + 1 + 1 + 1, okk2) :: (s1.heap.objs.size + 1 + 1, orr') :: (s1.heap.objs.size + 1, os) :: nx2) ?hM b0 b1 b2 b3 b5 b6 b10 XX TT ?hcc hC ?hold htb ?hn153 ?H ?hret)
      case hM => decide
      case hcc => exact memS (memS (memS (memS hcc)))
      case hold => exact fun q hq => memS (memS (memS (memS (S5.sub q hq))))
      case hn153 => exact List.forall_mem_cons.mpr ⟨hI4.symm, List.forall_mem_cons.mpr ⟨by k_ne, List.forall_mem_cons.mpr ⟨by k_ne, List.forall_mem_cons.mpr ⟨by k_ne, fun q hq => S5.off q hq 153 (by simp)⟩⟩⟩⟩
      case H =>
        refine ⟨?B, ?F, ?X, ?N, ?T, ?K, ?D, ?U⟩
        case N => (rename News _ _ _ _ => dN); exact rot4 dN
        case B => exact KK
        case F => k_asm
        case X => exact XX
        case T => exact TT
        case K => exact rfl
        case D => decide
        case U => decide
      case hret =>
        intro tb' T nx3 h' tk' hsub hT hTo htb' h153' F' N'
        (repeat' (first | ((with_reducible refine Blk.into ?_); (first | ((with_reducible show wpAny _ _ (subscriptTail _ _ (Value.ref _) (Value.int _ _)) _ _ _); k_dflt (first | (refine my_item3 (by k_asm) (by repeat (first | with_reducible assumption | refine memS ?_)) (by with_reducible assumption) (by with_reducible assumption) (by with_reducible assumption) (by with_reducible assumption) rowA' rowB' rowC' ?_ (by with_unfolding_all rfl); intro rr vv ee hrr hrw) | (refine my_item (by k_asm) (by repeat (first | with_reducible assumption | refine memS ?_)) (by decide) (by decide) (by with_unfolding_all rfl) ?_ (by with_unfolding_all rfl)) | (refine my_itemB (by k_asm) (by repeat (first | with_reducible assumption | refine memS ?_)) (by omega) (by omega) (by assumption) ?_ (by with_unfolding_all rfl); intro xq tq bq) | (refine my_itemS (by k_asm) (by with_reducible assumption) (by omega) (by omega) (by omega) (by with_reducible assumption) ?_ (by with_unfolding_all rfl); intro xq tq bq)); (try simp only [Int.reduceToNat, List.getElem_toArray, List.getElem_cons_zero, List.getElem_cons_succ])) | ((with_reducible show wpAny _ _ (call (Value.type "list") [Value.ref _]) _ _ _); (k_dflt (refine my_listcopy (by k_asm) (by k_asm) (by repeat (first | with_reducible assumption | refine memS ?_)) (by assumption) ?_)); intro Dq cq hq Fq Nq lq1; (try k_lt lq1); (try k_sweep)) | (with_reducible ((show wpAny _ _ (binaryOp .Mod (Value.int _ _) (Value.int _ _)) _ _ _); (refine my_mod (by omega) ?_); intro rq eq rq0 rq1)))) | (k_unfold; (try dsimp only)) | (k_end; wrow_close) | walk1 | (dsimp only; walk1) | (leave1; (try dsimp only))))
        have OO := (offL_off (all := nx3) (news := []) (as := [I, s1.heap.objs.size + 1 + 1 + 1, s1.heap.objs.size + 1 + 1, s1.heap.objs.size + 1, 153]) (fun _ h => nomatch h) (fun _ h => nomatch h)).off
        refine ⟨_, _, _, (s1.heap.objs.size + 1 + 1 + 1, okk2) :: (s1.heap.objs.size + 1 + 1, orr') :: (s1.heap.objs.size + 1, os) :: (153, tabObj tb') :: offL nx3 [I, s1.heap.objs.size + 1 + 1 + 1, s1.heap.objs.size + 1 + 1, s1.heap.objs.size + 1, 153], rfl, F', ?_, ?_, okk2, tb', offL nx3 [I, s1.heap.objs.size + 1 + 1 + 1, s1.heap.objs.size + 1 + 1, s1.heap.objs.size + 1, 153], rfl, ⟨_, hkd2⟩, ?_, ?_, ?_⟩
        · exact cb_drop N' (List.forall_mem_cons.mpr ⟨.tail _ (hsub _ (.head _)), List.forall_mem_cons.mpr ⟨.tail _ (hsub _ (.tail _ (.head _))), List.forall_mem_cons.mpr ⟨.tail _ (hsub _ (.tail _ (.tail _ (.head _)))), List.forall_mem_cons.mpr ⟨.tail _ (hsub _ (.tail _ (.tail _ (.tail _ (.head _))))), List.forall_mem_cons.mpr ⟨.head _, fun q hq => .tail _ (offL_sub q hq)⟩⟩⟩⟩⟩)
        · exact List.forall_mem_cons.mpr ⟨hI1, List.forall_mem_cons.mpr ⟨hI2, List.forall_mem_cons.mpr ⟨hI3, List.forall_mem_cons.mpr ⟨hI4, fun q hq => OO q hq _ (.head _)⟩⟩⟩⟩
        · exact fun q hq => offL_mem (hsub _ (.tail _ (.tail _ (.tail _ (.tail _ (S5.sub q (hrs q hq))))))) (S5.off q (S5.sub q (hrs q hq)))
        · exact fun q hq a ha => OO q hq a (.tail _ ha)
        · refine tabOk_mono htb' fun q hq => offL_mem (hT q hq) fun a ha => ?_
          rcases hTo q hq with h | h
          · exact S5.off q (S5.sub q h) a ha
          · simp only [List.mem_cons, List.not_mem_nil, or_false] at ha
            rcases ha with rfl | rfl | rfl | rfl | rfl
            · exact h _ (.head _)
            · exact h _ (.tail _ (.head _))
            · exact h _ (.tail _ (.tail _ (.head _)))
            · exact h _ (.tail _ (.tail _ (.tail _ (.head _))))
            · exact h153' q (hT q hq)
end Mine01
end

theorem PySem.Challenge.cw_kl0458_01_holds : PySem.Challenge.rw_kl0458_01.Holds :=
  Mine01.law_holds
