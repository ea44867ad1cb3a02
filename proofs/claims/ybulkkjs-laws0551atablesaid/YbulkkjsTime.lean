/-
  Package time's methods on the law's road: nsec (9), addSec (10), sec (12), Add (5) of the zero Time, Equal (7) of a Time with itself. By an AI agent.
-/
import Derived.Test.YbulkkjsRows
import Derived.WalkKit
import Derived.WalkLawsBesides
import Derived.RowKit3
namespace Go.Proofs.Ybulkkjs
open Go.RowKit

theorem nsec_any (a : Addr) (x : Int) (w : World) (hc : w.cell? a = some (.int .u64 x)) :
    Calls Yba.prog 9 #[.pointer (some a)] w fun e w' => e = .returned (.int .i32 (wrap32 (bits .and .u64 x 1073741823))) ∧ w' = w := by
  go_enter Yba.func9, Yba.ntmps9
  go_wp2
  go_ret
  exact ⟨rfl, rfl⟩

theorem nsec_zero (a : Addr) (w : World) (hc : w.cell? a = some (.int .u64 0)) :
    Calls Yba.prog 9 #[.pointer (some a)] w fun e w' => e = .returned (.int .i32 0) ∧ w' = w := by
  have h : wrap32 (bits .and .u64 0 1073741823) = 0 := by unfold wrap32; decide
  have := nsec_any a 0 w hc
  rw [h] at this
  exact this

theorem sec_any (b o : Nat) (x e : Int) (hm : (bits .and .u64 x 9223372036854775808 != 0) = false) (w : World) (hc : w.cell? ⟨b, o, none⟩ = some (.int .u64 x)) (hc1 : w.cell? ⟨b, o + 1, none⟩ = some (.int .i64 e)) :
    Calls Yba.prog 12 #[.pointer (some ⟨b, o, none⟩)] w fun r w' => r = .returned (.int .i64 e) ∧ w' = w := by
  go_enter Yba.func12, Yba.ntmps12
  go_wp2
  go_ret
  exact ⟨rfl, rfl⟩

/-! The bits -/
theorem or_low (r : Int) (h0 : 0 ≤ r) (h1 : r < 1000000000) : bits .or .u64 (bits .andNot .u64 0 1073741823) r = r := by
  have e1 : bits .andNot .u64 0 1073741823 = 0 := by decide
  rw [e1, u64_or 0 r (by omega) (by omega) h0 (by omega)]
  simp
  omega

theorem and_high (x : Int) (h0 : 0 ≤ x) (h1 : x < 1000000000) : (bits .and .u64 x 9223372036854775808 != 0) = false := by
  rw [u64_and x 9223372036854775808 h0 (by omega) (by omega) (by omega)]
  have e : x.toNat &&& (9223372036854775808 : Int).toNat = 0 := by
    show x.toNat &&& 2 ^ 63 = 0
    apply Nat.eq_of_testBit_eq
    intro i
    rw [Nat.testBit_and, Nat.testBit_two_pow, Nat.zero_testBit]
    by_cases hi : 63 = i
    · subst hi
      rw [Nat.testBit_lt_two_pow (by omega)]
      rfl
    · simp [hi]
  rw [e]
  rfl

theorem and_self (x : Int) (h0 : 0 ≤ x) (h1 : x < 1000000000) : bits .and .u64 x x = x := by
  rw [u64_and x x h0 (by omega) h0 (by omega), Nat.and_self]
  omega

theorem nsec_bound (n : Int) : ∃ r : Int, wrap32 (wrap32 (n.tmod 1000000000)) = r ∧ -1000000000 < r ∧ r < 1000000000 := by
  refine ⟨_, rfl, ?_, ?_⟩
  all_goals
    have := Int.tmod_lt_of_pos n (show (0 : Int) < 1000000000 by omega)
    have h2 : -1000000000 < n.tmod 1000000000 := by
      have := Int.lt_tmod_of_pos n (show (0 : Int) < 1000000000 by omega)
      omega
    unfold wrap32
    omega

/-- addSec on a Time whose 'ext' is 0, no monotonic reading: 'ext' becomes d. -/
theorem addSec_zero (b o : Nat) (x d : Int) (hm : (bits .and .u64 x 9223372036854775808 != 0) = false) (k0 : -9223372036854775808 ≤ d) (k1 : d ≤ 9223372036854775807) (w : World)
    (hc : w.cell? ⟨b, o, none⟩ = some (.int .u64 x)) (hc1 : w.cell? ⟨b, o + 1, none⟩ = some (.int .i64 0)) (hz : w.frozen? ⟨b, o + 1, none⟩ = false) :
    Calls Yba.prog 10 #[.pointer (some ⟨b, o, none⟩), .int .i64 d] w fun r w' => r = .returned (.tuple #[]) ∧ w' = w.setCell ⟨b, o + 1, none⟩ (.int .i64 d) := by
  go_enter Yba.func10, Yba.ntmps10
  go_wp2
  go_end0
  exact ⟨rfl, rfl⟩

/-- What Add leaves. -/
def AddPost (w : World) (q : Ending) (w' : World) : Prop := ∃ x e : Int, q = .returned (.agg #[.int .u64 x, .int .i64 e, .pointer none]) ∧ 0 ≤ x ∧ x < 1000000000 ∧ Below w.heap.size w w'

theorem wrap64_bounds (z : Int) : -9223372036854775808 ≤ wrap64 z ∧ wrap64 z ≤ 9223372036854775807 := by unfold wrap64; omega

theorem add_pos (n r : Int) (hr : wrap32 (wrap32 (n.tmod 1000000000)) = r) (h0 : 0 ≤ r) (h1 : r < 1000000000) (w : World) :
    Calls Yba.prog 5 #[.agg #[.int .u64 0, .int .i64 0, .pointer none], .int .i64 n] w fun q w' => AddPost w q w' := by
  have hx := or_low r h0 h1
  have hm := and_high r h0 h1
  obtain ⟨q, hq⟩ : ∃ q, wrap64 (n.tdiv 1000000000) = q := ⟨_, rfl⟩
  have hb := wrap64_bounds (n.tdiv 1000000000)
  rw [hq] at hb
  go_enter Yba.func5, Yba.ntmps5
  go_wp2_with (go_at_call 9; refine (nsec_zero _ _ ?_).mono ?_; (simp [go_sem]); rintro e w' ⟨rfl, rfl⟩)
  refine (addSec_zero _ _ r q hm hb.1 hb.2 _ ?_ ?_ ?_).mono ?_
  · simp [go_sem]
  · simp [go_sem]
  · simp [go_sem]
  rintro e w1 ⟨rfl, rfl⟩
  go_wp2
  refine bodyPost_ret (v := .agg #[.int .u64 r, .int .i64 q, .pointer none]) (by simp [results, Yba.results5, go_sem]) rfl ⟨r, q, rfl, h0, h1, ?_⟩
  exact ((Below.refl _ _).alloc (Nat.le_refl _) _).alloc (by simp) _

theorem add_neg (n r : Int) (hr : wrap32 (wrap32 (n.tmod 1000000000)) = r) (h0 : r < 0) (h1 : -1000000000 < r) (w : World) :
    Calls Yba.prog 5 #[.agg #[.int .u64 0, .int .i64 0, .pointer none], .int .i64 n] w fun q w' => AddPost w q w' := by
  have hx := or_low (r + 1000000000) (by omega) (by omega)
  have hm := and_high (r + 1000000000) (by omega) (by omega)
  obtain ⟨q, hq⟩ : ∃ q, wrap64 (n.tdiv 1000000000) = q := ⟨_, rfl⟩
  have hb := wrap64_bounds (q - 1)
  go_enter Yba.func5, Yba.ntmps5
  go_wp2_with (go_at_call 9; refine (nsec_zero _ _ ?_).mono ?_; (simp [go_sem]); rintro e w' ⟨rfl, rfl⟩)
  refine (addSec_zero _ _ (r + 1000000000) (wrap64 (q - 1)) hm hb.1 hb.2 _ ?_ ?_ ?_).mono ?_
  · simp [go_sem]
  · simp [go_sem]
  · simp [go_sem]
  rintro e w1 ⟨rfl, rfl⟩
  go_wp2
  refine bodyPost_ret (v := .agg #[.int .u64 (r + 1000000000), .int .i64 (wrap64 (q - 1)), .pointer none]) (by simp [results, Yba.results5, go_sem]) rfl ⟨r + 1000000000, wrap64 (q - 1), rfl, by omega, by omega, ?_⟩
  exact ((Below.refl _ _).alloc (Nat.le_refl _) _).alloc (by simp) _

/-- Add of the zero Time: some Time without a monotonic reading. -/
theorem add_any (n : Int) (w : World) :
    Calls Yba.prog 5 #[.agg #[.int .u64 0, .int .i64 0, .pointer none], .int .i64 n] w fun q w' => AddPost w q w' := by
  obtain ⟨r, hr, h0, h1⟩ := nsec_bound n
  by_cases h : r < 0
  · exact add_neg n r hr h h0 w
  · exact add_pos n r hr (by omega) h1 w

/-- Equal of a Time (without a monotonic reading) with itself. -/
theorem equal_same (x e : Int) (h0 : 0 ≤ x) (h1 : x < 1000000000) (w : World) :
    Calls Yba.prog 7 #[.agg #[.int .u64 x, .int .i64 e, .pointer none], .agg #[.int .u64 x, .int .i64 e, .pointer none]] w fun q w' => q = .returned (.bool true) ∧
      w' = (w.alloc (.cells #[.int .u64 x, .int .i64 e, .pointer none] 35)).alloc (.cells #[.int .u64 x, .int .i64 e, .pointer none] 35) := by
  have hm := and_high x h0 h1
  have hs := and_self x h0 h1
  go_enter Yba.func7, Yba.ntmps7
  go_wp2_with (first
    | (go_at_call 12; refine (sec_any _ 0 x e hm _ ?_ ?_).mono ?_; (simp [go_sem]); (simp [go_sem]); rintro e w' ⟨rfl, rfl⟩)
    | (go_at_call 9; refine (nsec_any _ x _ ?_).mono ?_; (simp [go_sem]); rintro e w' ⟨rfl, rfl⟩))
  go_ret
  exact ⟨rfl, rfl⟩
end Go.Proofs.Ybulkkjs
