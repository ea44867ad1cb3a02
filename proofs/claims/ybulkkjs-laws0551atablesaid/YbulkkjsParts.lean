/-
  Plain parts for LawS0551ATable: what is kept between two worlds; blocks told apart by their element types; rows of the table of types. By an AI agent.
-/
import Derived.Test.YbulkkjsRows
import Derived.WalkKit
import Derived.Deep.AppendLies
import Derived.Deep.MidRow
import Derived.RowKit3
namespace Go.Proofs.Ybulkkjs
open Go.RowKit

theorem hid {p : Prop} (h : p) : Hid p := h

/-- w' is w with new blocks; of the old blocks those in S are as they were. -/
structure Kept (S : Nat → Prop) (w w' : World) : Prop where
  os : w'.os = w.os
  tape : w'.tape = w.tape
  output : w'.output = w.output
  size : w.heap.size ≤ w'.heap.size
  block : ∀ b, b < w.heap.size → S b → w'.heap[b]? = w.heap[b]?

theorem Kept.refl (S : Nat → Prop) (w : World) : Kept S w w := ⟨rfl, rfl, rfl, Nat.le_refl _, fun _ _ _ => rfl⟩
theorem Kept.trans {S : Nat → Prop} {a b c : World} (h : Kept S a b) (g : Kept S b c) : Kept S a c :=
  ⟨g.os.trans h.os, g.tape.trans h.tape, g.output.trans h.output, Nat.le_trans h.size g.size, fun x hx hs => (g.block x (Nat.lt_of_lt_of_le hx h.size) hs).trans (h.block x hx hs)⟩
theorem Kept.mono {S T : Nat → Prop} {a b : World} (h : Kept S a b) (ht : ∀ x, x < a.heap.size → T x → S x) : Kept T a b :=
  ⟨h.os, h.tape, h.output, h.size, fun x hx hs => h.block x hx (ht x hx hs)⟩
theorem Kept.alloc {S : Nat → Prop} {a b : World} (h : Kept S a b) (o : Obj) : Kept S a (b.alloc o) :=
  h.trans ⟨rfl, rfl, rfl, by simp, fun x hx _ => Below.heap_alloc _ _ _ hx⟩
theorem Kept.drew {S : Nat → Prop} {a b : World} (h : Kept S a b) : Kept S a b.drew := ⟨h.os, h.tape, h.output, h.size, h.block⟩
theorem Kept.setCell {S : Nat → Prop} {a b : World} (h : Kept S a b) {p : Addr} (hp : p.block < a.heap.size → ¬ S p.block) (u : Value) : Kept S a (b.setCell p u) :=
  ⟨h.os, h.tape, h.output, by simpa [World.setCell] using h.size, fun x hx hs => by
    rw [Below.heap_setCell _ _ _ _ (fun e => hp (e ▸ hx) (e ▸ hs))]; exact h.block x hx hs⟩
theorem Kept.grown {S : Nat → Prop} {a b c : World} {row : Option Nat} (h : Kept S a b) (g : b.grownBy c row) (hr : ∀ x, x < a.heap.size → row = some x → ¬ S x) : Kept S a c :=
  ⟨g.os.trans h.os, g.tape.trans h.tape, g.output.trans h.output, Nat.le_trans h.size g.size, fun x hx hs => by
    rw [g.block x (Nat.lt_of_lt_of_le hx h.size) (fun e => hr x hx e.symm hs)]; exact h.block x hx hs⟩

theorem ne_of_types {w : World} {g b : Nat} {c c' : Array Value} {t t' : TypeId} {fr fr' : Nat × Nat} (h1 : w.heap[g]? = some (.cells c t fr)) (h2 : w.heap[b]? = some (.cells c' t' fr')) (ht : t ≠ t') : g ≠ b := by
  rintro rfl
  rw [h1] at h2
  cases h2
  exact ht rfl

theorem own_ne {w : World} {B : Nat} {e : TypeId} {size : Nat} {v : Value} {n : Nat} {xs : List Value} (h : w.ownsRow B e size v n xs) {b : Nat} {c : Array Value} {t : TypeId} {fr : Nat × Nat} (h2 : w.heap[b]? = some (.cells c t fr)) (ht : e ≠ t) : some b ≠ v.ownBlock := by
  rcases h.2 with ⟨rfl, _⟩ | ⟨g, cap, cur, rfl, _, hg, _⟩
  · simp [Value.ownBlock]
  · intro e'
    simp [Value.ownBlock] at e'
    subst e'
    rw [hg] at h2
    cases h2
    exact ht rfl

theorem own_le {w : World} {B : Nat} {e : TypeId} {size : Nat} {v : Value} {n : Nat} {xs : List Value} (h : w.ownsRow B e size v n xs) {x : Nat} (hx : v.ownBlock = some x) : B ≤ x := (h.lt x hx).1

theorem info9 : (Yba.prog.info? 9).map (fun i => (i.zero, i.size, i.bytes)) = some (some (.string ⟨#[]⟩), 1, 16) := by kernel_rfl
theorem info35 : (Yba.prog.info? 35).map (fun i => (i.zero, i.size, i.bytes)) = some (some (.agg #[.int .u64 0, .int .i64 0, .pointer none]), 3, 24) := by kernel_rfl
theorem info58 : (Yba.prog.info? 58).map (fun i => (i.zero, i.size, i.bytes)) = some (some (.agg #[.slice none 0 0, .nilIface]), 2, 40) := by kernel_rfl
theorem info25 : (Yba.prog.info? 25).map (fun i => (i.zero, i.size, i.bytes)) = some (some (.agg #[.string ⟨#[]⟩, .string ⟨#[]⟩, .string ⟨#[]⟩, .string ⟨#[]⟩, .int .i64 0]), 5, 72) := by kernel_rfl
theorem info37 : (Yba.prog.info? 37).map (fun i => (i.zero, i.size, i.bytes)) = some (some (.agg #[.string ⟨#[]⟩, .string ⟨#[]⟩, .string ⟨#[]⟩, .string ⟨#[]⟩, .string ⟨#[]⟩, .string ⟨#[]⟩, .string ⟨#[]⟩, .map none, .map none, .map none, .int .u64 0, .int .i64 0, .pointer none]), 13, 160) := by kernel_rfl
end Go.Proofs.Ybulkkjs
