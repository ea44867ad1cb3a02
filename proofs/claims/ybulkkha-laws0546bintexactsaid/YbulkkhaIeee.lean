/-
  Plain facts on doubles (Ieee's words): which words are equal to zero. No Go in sight. By an AI agent.
-/
import GoSem.Core.Float
namespace Go.Proofs.Ybulkkha
open Ieee

theorem d_sign : double.signWeight = 9223372036854775808 := rfl
theorem d_binade : double.binade = 4503599627370496 := rfl
theorem d_inf : double.infRung = 9218868437227405312 := rfl
theorem d_least : double.leastPlace = -1074 := rfl

theorem signed_zero (s : Bool) (m u : Nat) : (signed s m u = 0) ↔ m = 0 := by
  unfold signed
  have hp : 0 < 2 ^ u := Nat.two_pow_pos u
  rw [Nat.shiftLeft_eq]
  constructor
  · intro h
    have h' : m * 2 ^ u = 0 := by split at h <;> omega
    rcases Nat.mul_eq_zero.1 h' with h | h <;> omega
  · rintro rfl
    simp

theorem read_zero : double.read 0 = .number false 0 (-1074) := rfl

theorem order_zero_num (s : Bool) (m : Nat) (i : Int) : (Datum.order (.number s m i) (.number false 0 (-1074)) == some .eq) = (m == 0) := by
  simp only [Datum.order]
  have e : signed false 0 ((-1074 : Int) - min i (-1074)).toNat = 0 := (signed_zero _ _ _).2 rfl
  rw [e]
  rw [Bool.eq_iff_iff]
  simp only [beq_iff_eq, Option.some.injEq]
  rw [Std.LawfulEqCmp.compare_eq_iff_eq, signed_zero]

theorem order_zero (x : Nat) (h : x < 18446744073709551616) : (double.order x 0 == some .eq) = (x == 0 || x == 9223372036854775808) := by
  unfold Format.order
  rw [read_zero]
  unfold Format.read
  rw [d_sign, d_binade, d_inf, d_least]
  dsimp only
  split
  · rw [order_zero_num, Bool.eq_iff_iff]
    simp
    omega
  · split
    · rw [order_zero_num, Bool.eq_iff_iff]
      simp
      omega
    · split
      · simp [Datum.order]
        split <;> simp <;> omega
      · simp [Datum.order]
        omega
end Go.Proofs.Ybulkkha
