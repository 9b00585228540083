/- Floats: sums and products up to which NaN; zzSameFloat (25). -/
import Derived.Test.Qxb6602606aTally
namespace Go.Proofs.Qxb6602606a
open Go.RowKit
set_option linter.unusedVariables false
set_option linter.unusedSimpArgs false
attribute [local go_sem ↓] Go.wp_at_zero Go.wp_at_succ

/-- A word that is no number. -/
def NaN (x : Nat) : Prop := ∃ s f, Ieee.double.read x = .nan s f

/-- The word that the machine picks for a NaN. -/
def NB (x y : Nat) (w : World) : Nat := (Question.nanBits .f64 x y).cut (w.tape w.drawn (Question.nanBits .f64 x y))

theorem NB_nan (x y : Nat) (w : World) : NaN (NB x y w) := by
  unfold NB NaN
  obtain ⟨t, ht⟩ : ∃ t, t = w.tape w.drawn (Question.nanBits .f64 x y) := ⟨_, rfl⟩
  rw [← ht]
  show ∃ s f, Ieee.double.read ((t % 2) * 9223372036854775808 + 9218868437227405312 + 1 + (t / 2) % 4503599627370495) = .nan s f
  obtain ⟨r, hr⟩ : ∃ r, r = (t / 2) % 4503599627370495 := ⟨_, rfl⟩
  obtain ⟨s, hs⟩ : ∃ s, s = t % 2 := ⟨_, rfl⟩
  have hr1 : r < 4503599627370495 := by rw [hr]; exact Nat.mod_lt _ (by decide)
  have hs1 : s < 2 := by rw [hs]; exact Nat.mod_lt _ (by decide)
  rw [← hr, ← hs]
  clear hr hs ht
  have h1 : Ieee.double.signWeight = 9223372036854775808 := by decide
  have h2 : Ieee.double.binade = 4503599627370496 := by decide
  have h3 : Ieee.double.infRung = 9218868437227405312 := by decide
  have hm : (s * 9223372036854775808 + 9218868437227405312 + 1 + r) % 9223372036854775808 = 9218868437227405313 + r := by
    rw [show s * 9223372036854775808 + 9218868437227405312 + 1 + r = (9218868437227405313 + r) + s * 9223372036854775808 by omega, Nat.add_mul_mod_self_right]
    exact Nat.mod_eq_of_lt (by omega)
  unfold Ieee.Format.read
  simp only [h1, h2, h3, hm]
  rw [if_neg (by omega), if_neg (by omega), if_neg (by omega)]
  exact ⟨_, _, rfl⟩

theorem mul_nan {x : Nat} (h : NaN x) (y : Nat) : FloatKind.f64.format.mul x y = none := by
  obtain ⟨s, f, h⟩ := h
  show ((Ieee.double.read x).product (Ieee.double.read y)).map _ = none
  rw [h]; rfl
theorem add_nan {x : Nat} (h : NaN x) (y : Nat) : FloatKind.f64.format.add x y = none := by
  obtain ⟨s, f, h⟩ := h
  show ((Ieee.double.read x).sum (Ieee.double.read y)).map _ = none
  rw [h]; rfl

theorem order_nan {x : Nat} (h : NaN x) (y : Nat) : FloatKind.f64.format.order x y = none := by
  obtain ⟨s, f, h⟩ := h
  show (Ieee.double.read x).order (Ieee.double.read y) = none
  rw [h]; rfl
theorem order_self {x : Nat} (h : ¬ NaN x) : FloatKind.f64.format.order x x = some .eq := by
  show (Ieee.double.read x).order (Ieee.double.read x) = some .eq
  cases hd : Ieee.double.read x with
  | nan s f => exact absurd ⟨s, f, hd⟩ h
  | infinity s => simp [Ieee.Datum.order]
  | number s m i => simp [Ieee.Datum.order]

theorem run_mul_none (P : Program) (t : TypeId) (x y : Nat) (h : FloatKind.f64.format.mul x y = none) (w : World) : (binOp .mul t (.float .f64 x) (.float .f64 y)).run P w = .ok (.float .f64 (NB x y w)) w.drew := by
  simp [binOp, Op.floatArith, h, NB, Question.forced]
theorem run_add_none (P : Program) (t : TypeId) (x y : Nat) (h : FloatKind.f64.format.add x y = none) (w : World) : (binOp .add t (.float .f64 x) (.float .f64 y)).run P w = .ok (.float .f64 (NB x y w)) w.drew := by
  simp [binOp, Op.floatArith, h, NB, Question.forced]

/-- Alike: both no number, or the same word. -/
def SameF (x y : Nat) : Prop := (NaN x ∧ NaN y) ∨ x = y

theorem inf_ok (b : Bool) : ¬ NaN (Ieee.double.write (.infinity b)) := by
  rintro ⟨s, f, h⟩
  have : Ieee.double.read (Ieee.double.write (.infinity b)) = .infinity b := by cases b <;> decide
  rw [this] at h
  cases h

theorem one_read : ∃ m j, Ieee.double.read 4607182418800017408 = .number false m j ∧ m ≠ 0 := ⟨_, _, rfl, by decide⟩

theorem signed_zero (s : Bool) (m up : Nat) (h : Ieee.signed s m up = 0) : m = 0 := by
  unfold Ieee.signed at h
  rw [Nat.shiftLeft_eq] at h
  have h1 : m * 2 ^ up = 0 := by
    cases s
    · rw [if_neg (by decide)] at h; exact Int.ofNat_eq_zero.1 h
    · rw [if_pos rfl] at h; exact Int.ofNat_eq_zero.1 (Int.neg_eq_zero.1 h)
  rcases Nat.mul_eq_zero.1 h1 with h | h
  · exact h
  · exact absurd h (Nat.ne_of_gt (Nat.two_pow_pos up))

/-- One over a zero. -/
theorem div_zero {x : Nat} (h : FloatKind.f64.format.order x 0 = some .eq) : ∃ r, floatBits .quo .f64 4607182418800017408 x = some r ∧ ¬ NaN r := by
  have hz : ∃ s i, Ieee.double.read x = .number s 0 i := by
    have h0 : Ieee.double.read 0 = .number false 0 (-1074) := by decide
    have h' : (Ieee.double.read x).order (Ieee.double.read 0) = some .eq := h
    rw [h0] at h'
    cases hd : Ieee.double.read x with
    | nan s f => rw [hd] at h'; cases h'
    | infinity s => rw [hd] at h'; cases s <;> cases h'
    | number s m i =>
      rw [hd] at h'
      simp only [Ieee.Datum.order, Option.some.injEq] at h'
      refine ⟨s, i, ?_⟩
      have h'' : Ieee.signed s m (i - min i (-1074)).toNat = Ieee.signed false 0 ((-1074) - min i (-1074)).toNat := by
        exact Std.LawfulEqCmp.eq_of_compare h'
      have hm : m = 0 := by
        have hz : Ieee.signed false 0 ((-1074) - min i (-1074)).toNat = 0 := by
          unfold Ieee.signed
          rw [if_neg (by decide), Nat.shiftLeft_eq, Nat.zero_mul]; rfl
        exact signed_zero _ _ _ (h''.trans hz)
      rw [hm]
  obtain ⟨s, i, hx⟩ := hz
  obtain ⟨m, j, h1, hm⟩ := one_read
  refine ⟨Ieee.double.write (.infinity (false ^^ s)), ?_, inf_ok _⟩
  show ((Ieee.double.read 4607182418800017408).quotient _ (Ieee.double.read x)).map _ = _
  rw [h1, hx]
  simp [Ieee.Datum.quotient, hm]
  rfl

/-- true comes back, the world is as it was. -/
def TruePost (w : World) (e : Ending) (w' : World) : Prop := e = .returned (.bool true) ∧ w = w'

set_option maxHeartbeats 1000000 in
theorem same25 (x y : Nat) (w : World) (h : SameF x y) : Calls Try.prog 25 #[.float .f64 x, .float .f64 y] w (TruePost w) := by
  by_cases hn : NaN x ∧ NaN y
  · have h1 : (FloatKind.f64.format.order x x != some .eq) = true := by rw [order_nan hn.1]; rfl
    have h2 : (FloatKind.f64.format.order y y != some .eq) = true := by rw [order_nan hn.2]; rfl
    clear h hn
    go_enter Try.func25, Try.ntmps25
    go_wp2
    go_ret
    exact ⟨rfl, rfl⟩
  · obtain rfl : x = y := h.resolve_left hn
    have hx : ¬ NaN x := fun h => hn ⟨h, h⟩
    have h1 : (FloatKind.f64.format.order x x != some .eq) = false := by rw [order_self hx]; rfl
    clear h hn
    by_cases hz : FloatKind.f64.format.order x 0 = some .eq
    · obtain ⟨r, hr, hrn⟩ := div_zero hz
      have h2 : (FloatKind.f64.format.order x 0 == some .eq) = true := by rw [hz]; rfl
      have h3 : (FloatKind.f64.format.order r r == some .eq) = true := by rw [order_self hrn]; rfl
      have h4 := fun w => run_float_arith (P := Try.prog) w .quo 39 .f64 4607182418800017408 x r hr
      clear hz hr hrn hx
      go_enter Try.func25, Try.ntmps25
      go_wp2
      go_ret
      exact ⟨rfl, rfl⟩
    · have h2 : (FloatKind.f64.format.order x 0 == some .eq) = false := by simpa using hz
      clear hz hx
      go_enter Try.func25, Try.ntmps25
      go_wp2
      go_ret
      exact ⟨rfl, rfl⟩

end Go.Proofs.Qxb6602606a
