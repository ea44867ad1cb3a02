/-
  The walks of '(Value).Float' (function 10) and '(Value).IsZero' (13), and the entries of math.Float64bits, math.Float64frombits (11, 14). By an AI agent.
-/
import Derived.Test.YbulkkhaRows
import Derived.WalkKit
import Derived.WalkLawsBesides
import Derived.RowKit3
namespace Go.Proofs.Ybulkkha
open Go.RowKit

theorem run_frombits (n : Int) (w : World) : (callFunc 14 #[.int .u64 n]).run Yba.prog w = .ok (.value (.float .f64 n.toNat)) w :=
  run_callFunc_extern (e := Extern.MathFloatBits.float64frombits) Yba.func14 (by kernel_rfl) (by kernel_rfl) (by kernel_rfl) (by kernel_rfl) _ w

theorem run_bits (b : Nat) (w : World) : (callFunc 11 #[.float .f64 b]).run Yba.prog w = .ok (.value (.int .u64 b)) w :=
  run_callFunc_extern (e := Extern.MathFloatBits.float64bits) Yba.func11 (by kernel_rfl) (by kernel_rfl) (by kernel_rfl) (by kernel_rfl) _ w

theorem ret_float {k : FloatKind} {a b : Nat} (h : a = b) : Ending.returned (.float k a) = .returned (.float k b) := by rw [h]
theorem ret_bool {a b : Bool} (h : a = b) : Ending.returned (.bool a) = .returned (.bool b) := by rw [h]

theorem float_float (i b : Int) (x : Nat) (hx : (IntKind.u64.wrap i).toNat = x) (w : World) :
    Calls Yba.prog 10 #[.agg #[.int .i64 i, .bool true, .int .u8 b]] w fun e w' => e = .returned (.float .f64 x) ∧ w' = w.alloc (.cells #[.int .i64 i, .bool true, .int .u8 b] 29) := by
  have hf := run_frombits
  have HX : Hid ((IntKind.u64.wrap i).toNat = x) := hx
  clear hx
  go_enter Yba.func10, Yba.ntmps10
  go_wp2
  go_ret
  exact ⟨ret_float HX.out, rfl⟩

theorem float_int (i b : Int) (w : World) :
    Calls Yba.prog 10 #[.agg #[.int .i64 i, .bool false, .int .u8 b]] w fun e w' => e = .returned (.float .f64 (floatOfInt .f64 i)) ∧ w' = w.alloc (.cells #[.int .i64 i, .bool false, .int .u8 b] 29) := by
  go_enter Yba.func10, Yba.ntmps10
  go_wp2
  go_ret
  exact ⟨rfl, rfl⟩

theorem iszero_float (i b : Int) (x : Nat) (hx : (IntKind.u64.wrap i).toNat = x) (w : World) :
    Calls Yba.prog 13 #[.agg #[.int .i64 i, .bool true, .int .u8 b]] w fun e w' => e = .returned (.bool (FloatKind.f64.format.order x 0 == some .eq)) ∧ Grown w w' := by
  have H : ∀ w1, Calls Yba.prog 10 #[.agg #[.int .i64 i, .bool true, .int .u8 b]] w1 fun e w' => e = .returned (.float .f64 x) ∧ w' = w1.alloc (.cells #[.int .i64 i, .bool true, .int .u8 b] 29) := fun w1 => float_float i b x hx w1
  have HH : Hid (∀ w1, Calls Yba.prog 10 #[.agg #[.int .i64 i, .bool true, .int .u8 b]] w1 fun e w' => e = .returned (.float .f64 x) ∧ w' = w1.alloc (.cells #[.int .i64 i, .bool true, .int .u8 b] 29)) := H
  clear H hx
  go_enter Yba.func13, Yba.ntmps13
  go_wp2_with (go_at_call 10; refine (HH.out _).mono ?_; rintro e w' ⟨rfl, rfl⟩)
  all_goals go_ret
  exact ⟨rfl, ((Grown.refl _).alloc _ _).alloc _ _⟩

theorem iszero_int (i b : Int) (w : World) :
    Calls Yba.prog 13 #[.agg #[.int .i64 i, .bool false, .int .u8 b]] w fun e w' => e = .returned (.bool (i == 0)) ∧ Grown w w' := by
  go_enter Yba.func13, Yba.ntmps13
  go_wp2
  go_ret
  exact ⟨rfl, (Grown.refl _).alloc _ _⟩
end Go.Proofs.Ybulkkha
