/-
  The walk of 'stepAt' (function 8): what it returns at every string. By an AI agent.
-/
import Derived.Test.YbulkkhaRows
import Derived.WalkKit
import Derived.RegionTactic
namespace Go.Proofs.Ybulkkha
open Go.RowKit

/-- What the first two bytes decide. -/
def stepB (x y : Int) : Int := if x = y then (if x = 43 then 1 else if x = 45 then -1 else 0) else 0

theorem ret_int {k : IntKind} {a b : Int} (h : a = b) : Ending.returned (.int k a) = .returned (.int k b) := by rw [h]

theorem step_short (s : ByteArray) (w : World) (hs : (s.size : Int) < 2) :
    Calls Yba.prog 8 #[.string s] w fun e w' => e = .returned (.int .i64 0) ∧ Grown w w' := by
  go_enter Yba.func8, Yba.ntmps8
  go_wp2
  go_region
  go_wp2
  go_ret
  exact ⟨rfl, (Grown.refl _).drew⟩

theorem step_long (s : ByteArray) (w : World) (h1 : 1 < s.size) :
    Calls Yba.prog 8 #[.string s] w fun e w' => e = .returned (.int .i64 (stepB s[0].toNat s[1].toNat)) ∧ Grown w w' := by
  have h0 : 0 < s.size := by omega
  have h2 : (1 : Int) < s.size := by omega
  have hd : decide ((s.size : Int) < 2) = false := by simp; omega
  go_enter Yba.func8, Yba.ntmps8
  go_wp2
  go_region
  all_goals go_wp2
  all_goals (go_ret; refine ⟨ret_int ?_, (Grown.refl _).drew⟩; unfold stepB; simp_all)
  omega
end Go.Proofs.Ybulkkha
