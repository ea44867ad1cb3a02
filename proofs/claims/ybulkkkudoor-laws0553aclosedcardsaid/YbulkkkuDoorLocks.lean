/-
  The locks' methods on the law's road, walked at this dump's numbers, in the run of one goroutine: sync.RWMutex's RLock (11), RUnlock deferred (12), TryLock (8), Unlock (9); sync.Mutex's TryLock (15, 27), Unlock (18, 29); sync/atomic.Int32's Add (22), CompareAndSwap (17). After the guide's worked texts on the same locks. By an AI agent.
-/
import Derived.Test.YbulkkkuDoorRows
import Derived.WalkKit
import Derived.Defers
import Derived.Laws.Pointers
import Derived.Laws.LoneSync
import Derived.RowKit
namespace Go.Proofs.YbulkkkuDoor
open Go.RowKit (wrap32 wrap64)

theorem raceRead (a : Addr) (w : World) : (callFunc 13 #[.pointer (some a)]).run Ybad.prog w = .ok (.value (.tuple #[])) w := run_call_marked Ybad.func13 (by kernel_rfl) (by kernel_rfl) (by kernel_rfl) .read (by kernel_rfl) a w
theorem disable (w : World) : (callFunc 14 #[]).run Ybad.prog w = .ok (.value (.tuple #[])) w := run_call_mark0 Ybad.func14 (by kernel_rfl) (by kernel_rfl) (by kernel_rfl) .disable (by kernel_rfl) w
theorem enable (w : World) : (callFunc 16 #[]).run Ybad.prog w = .ok (.value (.tuple #[])) w := run_call_mark0 Ybad.func16 (by kernel_rfl) (by kernel_rfl) (by kernel_rfl) .enable (by kernel_rfl) w
theorem acquire (a : Addr) (w : World) : (callFunc 19 #[.pointer (some a)]).run Ybad.prog w = .ok (.value (.tuple #[])) w := run_call_marked Ybad.func19 (by kernel_rfl) (by kernel_rfl) (by kernel_rfl) .acquire (by kernel_rfl) a w
theorem release (a : Addr) (w : World) : (callFunc 20 #[.pointer (some a)]).run Ybad.prog w = .ok (.value (.tuple #[])) w := run_call_marked Ybad.func20 (by kernel_rfl) (by kernel_rfl) (by kernel_rfl) .release (by kernel_rfl) a w
theorem releaseMerge (a : Addr) (w : World) : (callFunc 21 #[.pointer (some a)]).run Ybad.prog w = .ok (.value (.tuple #[])) w := run_call_marked Ybad.func21 (by kernel_rfl) (by kernel_rfl) (by kernel_rfl) .releaseMerge (by kernel_rfl) a w

/-- What the conversion of a pointer (to a type t) into a mark's address does, the two types' rows looked up. -/
def markAt (t : TypeId) (a : Addr) : Sem Value := do
  let s ← Conv.seenAt a
  let nothing := match ← cellsIn s.block with
    | some cells => s.off ≥ cells && s.spot.isNone
    | none => false
  if (← sizeOf t) = 0 || nothing then pure (.pointer (some ⟨← newObj (.view s t), 0, none⟩)) else
  pure (.pointer (some s))

theorem run_markAt {t : TypeId} (hsz : (Ybad.prog.info? t).map (fun i => decide (i.size = 0)) = some false) {a : Addr} {v : Value} {w : World} (hc : w.cell? a = some v) :
    (markAt t a).run Ybad.prog w = .ok (.pointer (some a)) w := by
  obtain ⟨e, n, hsh, hlt, hsp⟩ := World.shape?_of_cell? hc
  obtain ⟨i, hi, hz0⟩ := Option.map_eq_some_iff.1 hsz
  have hz : i.size ≠ 0 := by simpa using hz0
  have hge : ¬ (n ≤ a.off) := by omega
  simp [markAt, Conv.seenAt, viewAt, cellsIn, sizeOf, typeInfo, hi, hz, hsh, hge, Result.andThen]

/-- The three conversions on the road: of a *sync.Mutex (70), a *uint32 (72), an *internal/sync.Mutex (81): the same address. -/
theorem conv70 {a : Addr} {v : Value} {w : World} (hc : w.cell? a = some v) : (convert 70 69 (.pointer (some a))).run Ybad.prog w = .ok (.pointer (some a)) w :=
  (show (convert 70 69 (.pointer (some a))).run Ybad.prog w = (markAt 30 a).run Ybad.prog w by kernel_rfl).trans (run_markAt (by kernel_rfl) hc)
theorem conv72 {a : Addr} {v : Value} {w : World} (hc : w.cell? a = some v) : (convert 72 69 (.pointer (some a))).run Ybad.prog w = .ok (.pointer (some a)) w :=
  (show (convert 72 69 (.pointer (some a))).run Ybad.prog w = (markAt 26 a).run Ybad.prog w by kernel_rfl).trans (run_markAt (by kernel_rfl) hc)
theorem conv81 {a : Addr} {v : Value} {w : World} (hc : w.cell? a = some v) : (convert 81 69 (.pointer (some a))).run Ybad.prog w = .ok (.pointer (some a)) w :=
  (show (convert 81 69 (.pointer (some a))).run Ybad.prog w = (markAt 28 a).run Ybad.prog w by kernel_rfl).trans (run_markAt (by kernel_rfl) hc)

/-- '(*atomic.Int32).Add'. -/
theorem i32add (a : Addr) (x y s : Int) (hs : wrap32 (x + y) = s) (w : World) (hc : w.cell? a = some (.int .i32 x)) (hz : w.frozen? a = false) :
    Calls Ybad.prog 22 #[.pointer (some a), .int .i32 y] w fun e w' => e = .returned (.int .i32 s) ∧ w' = w.setCell a (.int .i32 s) := by
  subst hs
  have hadd := run_call_add (P := Ybad.prog) Ybad.func30 (by kernel_rfl) (by kernel_rfl) (by kernel_rfl) .i32 (by kernel_rfl) (y := y) (s := wrap32 (x + y)) hc hz (by simp [go_sem, wrap32, IntKind.wrap_i32])
  go_enter Ybad.func22, Ybad.ntmps22
  go_wp2
  go_ret
  exact ⟨rfl, rfl⟩

/-- '(*atomic.Int32).CompareAndSwap' where it hits. -/
theorem i32cas (a : Addr) (x y : Int) (w : World) (hc : w.cell? a = some (.int .i32 x)) (hz : w.frozen? a = false) :
    Calls Ybad.prog 17 #[.pointer (some a), .int .i32 x, .int .i32 y] w fun e w' => e = .returned (.bool true) ∧ w' = w.setCell a (.int .i32 y) := by
  have hcas := run_call_cas_hit (P := Ybad.prog) Ybad.func28 (by kernel_rfl) (by kernel_rfl) (by kernel_rfl) .i32 (by kernel_rfl) (y := y) hc hz
  go_enter Ybad.func17, Ybad.ntmps17
  go_wp2
  go_ret
  exact ⟨rfl, rfl⟩

set_option maxRecDepth 100000 in
set_option maxHeartbeats 1600000 in
/-- '(*internal/sync.Mutex).TryLock' at a free lock. -/
theorem itry_free (a : Addr) (w : World) (hc : w.cell? a = some (.int .i32 0)) (hz : w.frozen? a = false) :
    Calls Ybad.prog 27 #[.pointer (some a)] w fun e w' => e = .returned (.bool true) ∧ w' = w.setCell a (.int .i32 1) := by
  have h2 := disable
  have h3 := enable
  have h4 := acquire
  have hcas := run_call_cas_hit (P := Ybad.prog) Ybad.func28 (by kernel_rfl) (by kernel_rfl) (by kernel_rfl) .i32 (by kernel_rfl) (y := 1) hc hz
  have hc' : (w.setCell a (.int .i32 1)).cell? a = some (.int .i32 1) := World.cell?_setCell_same w a _ hc
  have v1 := conv81 hc'
  have hb : bits BinOp.and IntKind.i32 0 5 = 0 := by decide
  go_enter Ybad.func27, Ybad.ntmps27
  go_wp2
  go_ret
  exact ⟨rfl, rfl⟩

/-- '(*sync.Mutex).TryLock' at a free lock. -/
theorem try_free (a : Addr) (w : World) (hc : w.cell? a = some (.int .i32 0)) (hz : w.frozen? a = false) :
    Calls Ybad.prog 15 #[.pointer (some a)] w fun e w' => e = .returned (.bool true) ∧ w' = w.setCell a (.int .i32 1) := by
  go_enter Ybad.func15, Ybad.ntmps15
  go_wp2_with (go_at_call 27; refine (itry_free _ _ hc hz).mono ?_; rintro e w' ⟨rfl, rfl⟩)
  go_ret
  exact ⟨rfl, rfl⟩

set_option maxRecDepth 100000 in
set_option maxHeartbeats 1600000 in
/-- '(*internal/sync.Mutex).Unlock' at a lock that is held, nobody waiting. -/
theorem iunlock_held (a : Addr) (w : World) (hc : w.cell? a = some (.int .i32 1)) (hz : w.frozen? a = false) :
    Calls Ybad.prog 29 #[.pointer (some a)] w fun e w' => e = .returned (.tuple #[]) ∧ w' = w.setCell a (.int .i32 0) := by
  have h2 := disable
  have h3 := enable
  have h4 := releaseMerge
  have hadd := run_call_add (P := Ybad.prog) Ybad.func30 (by kernel_rfl) (by kernel_rfl) (by kernel_rfl) .i32 (by kernel_rfl) (y := -1) (s := 0) hc hz (by simp [go_sem, IntKind.wrap_i32])
  have v1 := conv81 hc
  go_enter Ybad.func29, Ybad.ntmps29
  go_wp2
  go_end0
  exact ⟨rfl, rfl⟩

/-- '(*sync.Mutex).Unlock' at a lock that is held, nobody waiting. -/
theorem unlock_held (a : Addr) (w : World) (hc : w.cell? a = some (.int .i32 1)) (hz : w.frozen? a = false) :
    Calls Ybad.prog 18 #[.pointer (some a)] w fun e w' => e = .returned (.tuple #[]) ∧ w' = w.setCell a (.int .i32 0) := by
  go_enter Ybad.func18, Ybad.ntmps18
  go_wp2_with (go_at_call 29; refine (iunlock_held _ _ hc hz).mono ?_; rintro e w' ⟨rfl, rfl⟩)
  go_end0
  exact ⟨rfl, rfl⟩
end Go.Proofs.YbulkkkuDoor
