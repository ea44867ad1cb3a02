/-
  The walks of '(*DB).View' (6) at a closed DB and of the law (4). By an AI agent.
-/
import Derived.Test.YbulkkkuDoorRw
import Derived.LaidEql
import Derived.Laws.EntriesVeiled
import Derived.RowKit3
namespace Go.Proofs.YbulkkkuDoor
open Go.RowKit

/-- View at a closed DB that lies at the start of block b, its lock free: the value of ErrClosed; the readers' count goes up and down again. -/
theorem view_closed (b : Nat) (f : Value) (a : Addr) (x2 x3 : Value) (w : World)
    (c0 : w.cell? ⟨b, 3, none⟩ = some (.int .i32 0)) (c2 : w.cell? ⟨b, 5, none⟩ = some x2) (c3 : w.cell? ⟨b, 6, none⟩ = some x3) (c4 : w.cell? ⟨b, 7, none⟩ = some (.int .i32 0)) (c17 : w.cell? ⟨b, 17, none⟩ = some (.bool true))
    (z4 : w.frozen? ⟨b, 7, none⟩ = false) (hg : w.cell? ⟨0, 0, none⟩ = some (.iface 64 (.pointer (some a)))) :
    Calls Ybad.prog 6 #[.pointer (some ⟨b, 0, none⟩), f] w fun e w' => e = .returned (.iface 64 (.pointer (some a))) ∧
      w' = (w.setCell ⟨b, 7, none⟩ (.int .i32 1)).setCell ⟨b, 7, none⟩ (.int .i32 0) := by
  have R : ∀ w1 : World, Hid (Calls Ybad.prog 11 #[.pointer (some ⟨b, 3, none⟩)] w fun e w' => e = .returned (.tuple #[]) ∧ w' = w.setCell ⟨b, 7, none⟩ (.int .i32 1)) := fun _ => rlock_free b 3 _ _ w c0 c3 c4 z4
  have d17 : (w.setCell ⟨b, 7, none⟩ (.int .i32 1)).cell? ⟨b, 17, none⟩ = some (.bool true) := (World.cell?_setCell_other _ ⟨b, 7, none⟩ ⟨b, 17, none⟩ _ (by simp)).trans c17
  have dg : (w.setCell ⟨b, 7, none⟩ (.int .i32 1)).cell? ⟨0, 0, none⟩ = some (.iface 64 (.pointer (some a))) := (World.cell?_setCell_other _ ⟨b, 7, none⟩ ⟨0, 0, none⟩ _ (by simp)).trans hg
  go_enter_defers Ybad.func6, Ybad.ntmps6
  go_wp2_with (go_at_call 11; refine ((R w).out).mono ?_; rintro e w' ⟨rfl, rfl⟩)
  refine leaves_cons (f := 12) (args := #[.pointer (some ⟨b, 3, none⟩)]) (by simp) (by simp [go_sem]) ?_
  refine (runlock_deferred b 3 (.int .i32 0) x2 .returning _ ?_ ?_ ?_ ?_).mono ?_
  · exact (World.cell?_setCell_other _ ⟨b, 7, none⟩ ⟨b, 3, none⟩ _ (by simp)).trans c0
  · exact (World.cell?_setCell_other _ ⟨b, 7, none⟩ ⟨b, 5, none⟩ _ (by simp)).trans c2
  · exact World.cell?_setCell_same w ⟨b, 7, none⟩ (.int .i32 1) c4
  · simp [z4]
  rintro e u' w'' ⟨rfl, rfl, rfl⟩
  exact ⟨_, results_tmp rfl _ _ _, rfl, rfl⟩

theorem comp64 : (Ybad.prog.info? 64).map (·.comparable) = some true := by kernel_rfl
theorem size66 : (Ybad.prog.info? 66).map (·.size) = some 1 := by kernel_rfl

/-- 'err != ErrClosed' where both are the one pointer. -/
theorem neq_same (a : Addr) (w : World) : (binOp .neq 42 (.iface 64 (.pointer (some a))) (.iface 64 (.pointer (some a)))).run Ybad.prog w = .ok (.bool false) w := by
  obtain ⟨i, hi, hc⟩ := Option.map_eq_some_iff.1 comp64
  obtain ⟨j, hj, _⟩ := Option.map_eq_some_iff.1 size66
  simp only [binOp]
  simp [Op.equal, Op.maxDepth, run_equalIn_iface_ptr_same w 9998 a Ybad.underlying42 Ybad.underlying64 hi hc hj]

theorem law_any (fail : Bool) (a : Addr) (w : World) (hpos : 0 < w.heap.size) (hg : w.cell? ⟨0, 0, none⟩ = some (.iface 64 (.pointer (some a)))) :
    Calls Ybad.prog 4 #[.bool fail] w fun e w' => e = .returned (.bool true) ∧ Grown w w' := by
  have hmf : ∀ (fn : Fn) (first cap : Array Value) (w : World), (Instr.makeFunc fn first cap).run Ybad.prog w = .ok (.func fn first cap) w := fun _ _ _ _ => rfl
  have hne := neq_same a
  go_enter Ybad.func4, Ybad.ntmps4
  go_wp2_with fail
  refine (view_closed (w.heap.size + 1) _ a (.int .u32 0) (.int .u32 0) _ ?_ ?_ ?_ ?_ ?_ ?_ ?_).mono ?_
  · simp [go_sem]
  · simp [go_sem]
  · simp [go_sem]
  · simp [go_sem]
  · simp [go_sem]
  · simp [go_sem]
  · simp [go_sem, hg, hpos]
  rintro e w1 ⟨rfl, rfl⟩
  go_wp2_with fail
  refine (trylock_free (w.heap.size + 1) 3 (.int .u32 0) (.int .u32 0) _ ?_ ?_ ?_ ?_ ?_ ?_).mono ?_
  · simp [go_sem]
  · simp [go_sem]
  · simp [go_sem]
  · simp [go_sem]
  · simp [go_sem]
  · simp [go_sem]
  rintro e w1 ⟨rfl, rfl⟩
  go_wp2_with fail
  refine (wunlock_held (w.heap.size + 1) 3 (.int .u32 0) (.int .u32 0) _ ?_ ?_ ?_ ?_ ?_ ?_).mono ?_
  · simp [go_sem]
  · simp [go_sem]
  · simp [go_sem]
  · simp [go_sem]
  · simp [go_sem]
  · simp [go_sem]
  rintro e w1 ⟨rfl, rfl⟩
  go_wp2
  go_ret
  exact ⟨rfl, ((((Grown.refl _).alloc _ _).alloc _ _).alloc _ _)⟩
end Go.Proofs.YbulkkkuDoor
