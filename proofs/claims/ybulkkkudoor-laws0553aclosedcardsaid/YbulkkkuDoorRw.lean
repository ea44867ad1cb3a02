/-
  sync.RWMutex's RLock (11), RUnlock as a deferred call (12), TryLock (8), Unlock (9), at this dump's numbers, in the run of one goroutine. The lock is six cells from ⟨b, off⟩ on. By an AI agent.
-/
import Derived.Test.YbulkkkuDoorLocks
namespace Go.Proofs.YbulkkkuDoor
open Go.RowKit (wrap32 wrap64)

theorem up1 : wrap32 (0 + 1) = 1 := by unfold wrap32; decide
theorem down1 : wrap32 (1 + -1) = 0 := by unfold wrap32; decide
theorem up30 : wrap32 (-1073741824 + 1073741824) = 0 := by unfold wrap32; decide

set_option maxRecDepth 100000 in
set_option maxHeartbeats 1600000 in
/-- RLock where no writer is at the lock and no reader is in: the readers' count becomes 1. -/
theorem rlock_free (b off : Nat) (x0 x3 : Value) (w : World) (c0 : w.cell? ⟨b, off, none⟩ = some x0) (c3 : w.cell? ⟨b, off + 3, none⟩ = some x3)
    (hc : w.cell? ⟨b, off + 4, none⟩ = some (.int .i32 0)) (hz : w.frozen? ⟨b, off + 4, none⟩ = false) :
    Calls Ybad.prog 11 #[.pointer (some ⟨b, off, none⟩)] w fun e w' => e = .returned (.tuple #[]) ∧ w' = w.setCell ⟨b, off + 4, none⟩ (.int .i32 1) := by
  have h1 := raceRead
  have h2 := disable
  have h3 := enable
  have h4 := acquire
  have v0 := conv70 c0
  have c3' : (w.setCell ⟨b, off + 4, none⟩ (.int .i32 1)).cell? ⟨b, off + 3, none⟩ = some x3 := (World.cell?_setCell_other _ ⟨b, off + 4, none⟩ ⟨b, off + 3, none⟩ _ (by simp)).trans c3
  have v3 := conv72 c3'
  go_enter Ybad.func11, Ybad.ntmps11
  go_wp2_with (go_at_call 22; refine (i32add _ 0 1 1 up1 _ hc hz).mono ?_; rintro e w' ⟨rfl, rfl⟩)
  go_end0
  exact ⟨rfl, rfl⟩

set_option maxRecDepth 100000 in
set_option maxHeartbeats 1600000 in
/-- RUnlock, deferred, the one reader being in: the readers' count becomes 0. -/
theorem runlock_deferred (b off : Nat) (x0 x2 : Value) (u : FrameMode) (w : World) (c0 : w.cell? ⟨b, off, none⟩ = some x0) (c2 : w.cell? ⟨b, off + 2, none⟩ = some x2)
    (hc : w.cell? ⟨b, off + 4, none⟩ = some (.int .i32 1)) (hz : w.frozen? ⟨b, off + 4, none⟩ = false) :
    CallsD Ybad.prog 12 #[.pointer (some ⟨b, off, none⟩)] u w fun e u' w' => u' = u ∧ (e = .returned (.tuple #[]) ∧ w' = w.setCell ⟨b, off + 4, none⟩ (.int .i32 0)) := by
  have h1 := raceRead
  have h2 := disable
  have h3 := enable
  have h4 := releaseMerge
  have v0 := conv70 c0
  have v2 := conv72 c2
  go_enter_d Ybad.func12, Ybad.ntmps12
  go_wp2_with (go_at_call 22; refine (i32add _ 1 (-1) 0 down1 _ hc hz).mono ?_; rintro e w' ⟨rfl, rfl⟩)
  go_end0
  exact ⟨rfl, rfl⟩

set_option maxRecDepth 100000 in
set_option maxHeartbeats 1600000 in
/-- TryLock where the lock is wholly free: true; the writers' mutex is taken, the readers' count is 2^30 below zero. -/
theorem trylock_free (b off : Nat) (x2 x3 : Value) (w : World) (c0 : w.cell? ⟨b, off, none⟩ = some (.int .i32 0)) (c2 : w.cell? ⟨b, off + 2, none⟩ = some x2) (c3 : w.cell? ⟨b, off + 3, none⟩ = some x3)
    (hc : w.cell? ⟨b, off + 4, none⟩ = some (.int .i32 0)) (z0 : w.frozen? ⟨b, off, none⟩ = false) (hz : w.frozen? ⟨b, off + 4, none⟩ = false) :
    Calls Ybad.prog 8 #[.pointer (some ⟨b, off, none⟩)] w fun e w' => e = .returned (.bool true) ∧ w' = (w.setCell ⟨b, off, none⟩ (.int .i32 1)).setCell ⟨b, off + 4, none⟩ (.int .i32 (-1073741824)) := by
  have h1 := raceRead
  have h2 := disable
  have h3 := enable
  have h4 := acquire
  have v0 := conv70 c0
  have hc' : (w.setCell ⟨b, off, none⟩ (.int .i32 1)).cell? ⟨b, off + 4, none⟩ = some (.int .i32 0) := (World.cell?_setCell_other _ ⟨b, off, none⟩ ⟨b, off + 4, none⟩ _ (by simp)).trans hc
  have hz' : (w.setCell ⟨b, off, none⟩ (.int .i32 1)).frozen? ⟨b, off + 4, none⟩ = false := by simp [hz]
  have c2' : ((w.setCell ⟨b, off, none⟩ (.int .i32 1)).setCell ⟨b, off + 4, none⟩ (.int .i32 (-1073741824))).cell? ⟨b, off + 2, none⟩ = some x2 := (World.cell?_setCell_other _ ⟨b, off + 4, none⟩ ⟨b, off + 2, none⟩ _ (by simp)).trans ((World.cell?_setCell_other w ⟨b, off, none⟩ ⟨b, off + 2, none⟩ _ (by simp)).trans c2)
  have c3' : ((w.setCell ⟨b, off, none⟩ (.int .i32 1)).setCell ⟨b, off + 4, none⟩ (.int .i32 (-1073741824))).cell? ⟨b, off + 3, none⟩ = some x3 := (World.cell?_setCell_other _ ⟨b, off + 4, none⟩ ⟨b, off + 3, none⟩ _ (by simp)).trans ((World.cell?_setCell_other w ⟨b, off, none⟩ ⟨b, off + 3, none⟩ _ (by simp)).trans c3)
  have v2 := conv72 c2'
  have v3 := conv72 c3'
  go_enter Ybad.func8, Ybad.ntmps8
  go_wp2_with (first
    | (go_at_call 15; refine (try_free _ _ c0 z0).mono ?_; rintro e w' ⟨rfl, rfl⟩)
    | (go_at_call 17; refine (i32cas _ 0 (-1073741824) _ hc' hz').mono ?_; rintro e w' ⟨rfl, rfl⟩))
  go_ret
  exact ⟨rfl, rfl⟩

set_option maxRecDepth 100000 in
set_option maxHeartbeats 1600000 in
/-- Unlock by the writer that holds the lock, nobody waiting. -/
theorem wunlock_held (b off : Nat) (x2 x3 : Value) (w : World) (c0 : w.cell? ⟨b, off, none⟩ = some (.int .i32 1)) (c2 : w.cell? ⟨b, off + 2, none⟩ = some x2) (c3 : w.cell? ⟨b, off + 3, none⟩ = some x3)
    (hc : w.cell? ⟨b, off + 4, none⟩ = some (.int .i32 (-1073741824))) (z0 : w.frozen? ⟨b, off, none⟩ = false) (hz : w.frozen? ⟨b, off + 4, none⟩ = false) :
    Calls Ybad.prog 9 #[.pointer (some ⟨b, off, none⟩)] w fun e w' => e = .returned (.tuple #[]) ∧ w' = (w.setCell ⟨b, off + 4, none⟩ (.int .i32 0)).setCell ⟨b, off, none⟩ (.int .i32 0) := by
  have h1 := raceRead
  have h2 := disable
  have h3 := enable
  have h4 := release
  have h5 := releaseMerge
  have v0 := conv70 c0
  have v2 := conv72 c2
  have v3 := conv72 c3
  have c0' : (w.setCell ⟨b, off + 4, none⟩ (.int .i32 0)).cell? ⟨b, off, none⟩ = some (.int .i32 1) := (World.cell?_setCell_other _ ⟨b, off + 4, none⟩ ⟨b, off, none⟩ _ (by simp)).trans c0
  have z0' : (w.setCell ⟨b, off + 4, none⟩ (.int .i32 0)).frozen? ⟨b, off, none⟩ = false := by simp [z0]
  go_enter Ybad.func9, Ybad.ntmps9
  go_wp2_with (first
    | (go_at_call 22; refine (i32add _ (-1073741824) 1073741824 0 up30 _ hc hz).mono ?_; rintro e w' ⟨rfl, rfl⟩)
    | (go_at_call 18; refine (unlock_held _ _ c0' z0').mono ?_; rintro e w' ⟨rfl, rfl⟩))
  refine wp_loop_once ?_
  go_wp2_with (go_at_call 18; refine (unlock_held _ _ c0' z0').mono ?_; rintro e w' ⟨rfl, rfl⟩)
  go_end0
  exact ⟨rfl, rfl⟩
end Go.Proofs.YbulkkkuDoor
