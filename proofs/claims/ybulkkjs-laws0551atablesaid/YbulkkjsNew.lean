/-
  newTable (function 6). By an AI agent.
-/
import Derived.Test.YbulkkjsFlat
import Derived.RegionTactic
import Derived.BigRegion
import Derived.Deep.RegionHeld3
import Derived.Deep.DeepCutAuto
import Derived.Deep.CutBlock
import Derived.WalkLawsBesides
namespace Go.Proofs.Ybulkkjs
open Go.RowKit

abbrev preS : ByteArray := ⟨#[109, 101, 116, 97, 46, 107, 56, 115, 46, 105, 111, 47]⟩
abbrev tableS : ByteArray := ⟨#[84, 97, 98, 108, 101]⟩

abbrev partS : ByteArray := ⟨#[80, 97, 114, 116, 105, 97, 108, 79, 98, 106, 101, 99, 116, 77, 101, 116, 97, 100, 97, 116, 97]⟩
abbrev noneL : List UInt8 := [78, 111, 110, 101]
abbrev objectL : List UInt8 := [79, 98, 106, 101, 99, 116]
abbrev partAgg (api s : ByteArray) : Value := .agg #[.string partS, .string api, .string s, E0, E0, E0, E0, .map none, .map none]
/-- What a row's Object holds, by what 'includeObject' asks. -/
def ovOf (inc tv s : ByteArray) : Value := if (inc.toList == noneL) = true then .nilIface else if (inc.toList == objectL) = true then .iface 37 (objAgg s) else .iface 62 (partAgg (preS ++ tv) s)

/-- Behind newTable's first statement. -/
def Start (w : World) (x e : Int) (tv rv cont : ByteArray) (gc m : Nat) (t : Value) (wx : World) : Prop :=
  ∃ tb g0, t = .pointer (some ⟨tb, 0, none⟩) ∧ w.heap.size + 3 ≤ tb ∧ w.heap.size + 3 ≤ g0 ∧
    wx.heap[tb]? = some (.cells #[.string tableS, .string (preS ++ tv), .string rv, .string cont, .slice (some ⟨gc, 0, none⟩) m m, .slice (some ⟨g0, 0, none⟩) 0 0] 54 (0, 0)) ∧
    wx.heap[g0]? = some (.cells #[] 58 (0, 0)) ∧ wx.heap[w.heap.size + 1]? = some (.cells #[.int .u64 x, .int .i64 e, .pointer none] 35 (0, 0)) ∧
    wx.heap[w.heap.size + 1 + 1]? = some (.cells #[E0, E0, E0, E0, .slice none 0 0, .slice none 0 0] 54 (0, 0)) ∧ Kept (fun _ => True) w wx

theorem heap5 (w : World) (a b c d f : Obj) :
    (((((w.alloc a).alloc b).alloc c).alloc d).alloc f).heap[w.heap.size + 1]? = some b ∧ (((((w.alloc a).alloc b).alloc c).alloc d).alloc f).heap[w.heap.size + 1 + 1]? = some c ∧
    (((((w.alloc a).alloc b).alloc c).alloc d).alloc f).heap[w.heap.size + 1 + 1 + 1]? = some d ∧ (((((w.alloc a).alloc b).alloc c).alloc d).alloc f).heap[w.heap.size + 1 + 1 + 1 + 1]? = some f := by
  have e1 : (w.alloc a).heap.size = w.heap.size + 1 := by simp
  have e2 : ((w.alloc a).alloc b).heap.size = w.heap.size + 1 + 1 := by simp
  have e3 : (((w.alloc a).alloc b).alloc c).heap.size = w.heap.size + 1 + 1 + 1 := by simp
  have e4 : ((((w.alloc a).alloc b).alloc c).alloc d).heap.size = w.heap.size + 1 + 1 + 1 + 1 := by simp
  refine ⟨?_, ?_, ?_, ?_⟩
  · rw [Below.heap_alloc _ _ _ (by simp), Below.heap_alloc _ _ _ (by simp), Below.heap_alloc _ _ _ (by simp), ← e1]; exact heap_alloc_new _ _
  · rw [Below.heap_alloc _ _ _ (by simp), Below.heap_alloc _ _ _ (by simp), ← e2]; exact heap_alloc_new _ _
  · rw [Below.heap_alloc _ _ _ (by simp), ← e3]; exact heap_alloc_new _ _
  · rw [← e4]; exact heap_alloc_new _ _

theorem start_1 (w : World) (x e : Int) (tv rv cont : ByteArray) (gc m : Nat) :
    Start w x e tv rv cont gc m (.pointer (some ⟨w.heap.size + 1 + 1 + 1 + 1, 0, none⟩))
      (((((w.alloc (.cells #[.string rv, .string cont] 51)).alloc (.cells #[.int .u64 x, .int .i64 e, .pointer none] 35)).alloc (.cells #[E0, E0, E0, E0, .slice none 0 0, .slice none 0 0] 54)).alloc (.cells #[] 58)).alloc
        (.cells #[.string tableS, .string (preS ++ tv), .string rv, .string cont, .slice (some ⟨gc, 0, none⟩) m m, .slice (some ⟨w.heap.size + 1 + 1 + 1, 0, none⟩) 0 0] 54)).drew := by
  obtain ⟨h1, h2, h3, h4⟩ := heap5 w (.cells #[.string rv, .string cont] 51) (.cells #[.int .u64 x, .int .i64 e, .pointer none] 35) (.cells #[E0, E0, E0, E0, .slice none 0 0, .slice none 0 0] 54) (.cells #[] 58)
    (.cells #[.string tableS, .string (preS ++ tv), .string rv, .string cont, .slice (some ⟨gc, 0, none⟩) m m, .slice (some ⟨w.heap.size + 1 + 1 + 1, 0, none⟩) 0 0] 54)
  exact ⟨_, _, rfl, by omega, by omega, h4, h3, h1, h2, ((((((Kept.refl _ w).alloc _).alloc _).alloc _).alloc _).alloc _).drew⟩

theorem start_2 (w : World) (x e : Int) (tv rv cont : ByteArray) (gc m : Nat) :
    Start w x e tv rv cont gc m (.pointer (some ⟨w.heap.size + 1 + 1 + 1, 0, none⟩))
      (((((w.alloc (.cells #[.string rv, .string cont] 51)).alloc (.cells #[.int .u64 x, .int .i64 e, .pointer none] 35)).alloc (.cells #[E0, E0, E0, E0, .slice none 0 0, .slice none 0 0] 54)).alloc
        (.cells #[.string tableS, .string (preS ++ tv), .string rv, .string cont, .slice (some ⟨gc, 0, none⟩) m m, .slice (some ⟨w.heap.size + 1 + 1 + 1 + 1, 0, none⟩) 0 0] 54)).alloc (.cells #[] 58)).drew := by
  obtain ⟨h1, h2, h3, h4⟩ := heap5 w (.cells #[.string rv, .string cont] 51) (.cells #[.int .u64 x, .int .i64 e, .pointer none] 35) (.cells #[E0, E0, E0, E0, .slice none 0 0, .slice none 0 0] 54)
    (.cells #[.string tableS, .string (preS ++ tv), .string rv, .string cont, .slice (some ⟨gc, 0, none⟩) m m, .slice (some ⟨w.heap.size + 1 + 1 + 1 + 1, 0, none⟩) 0 0] 54) (.cells #[] 58)
  exact ⟨_, _, rfl, by omega, by omega, h3, h4, h1, h2, ((((((Kept.refl _ w).alloc _).alloc _).alloc _).alloc _).alloc _).drew⟩

abbrev objList (s : ByteArray) : List Value := [.string ⟨#[76, 101, 97, 115, 101]⟩, .string ⟨#[118, 57]⟩, .string s, E0, E0, E0, E0, .map none, .map none, .map none, .int .u64 0, .int .i64 0, .pointer none]
/-- The cells of the first k objects. -/
def objCells (names : List ByteArray) (k : Nat) : List Value := flat (fun j => objList (names.getD j ⟨#[]⟩)) k

/-- The cells of the first k rows. -/
def rowCells (ov : ByteArray → Value) (c : Nat → Nat) (names : List ByteArray) (k : Nat) : List Value := flat (fun j => [.slice (some ⟨c j, 0, none⟩) 1 1, ov (names.getD j ⟨#[]⟩)]) k

/-- newTable's loop: k objects are done. -/
def Loop (ov : ByteArray → Value) (w : World) (bs bt bk tb : Nat) (x e : Int) (names : List ByteArray) (tv rv cont : ByteArray) (gc m : Nat) (k : Nat) (wr : World) : Prop :=
  ∃ (vs vt : Value) (gr cap : Nat) (c : Nat → Nat), Col (w.heap.size + 3) bs bt bk x e (names.take k) wr vs vt ∧
    wr.heap[tb]? = some (.cells #[.string tableS, .string (preS ++ tv), .string rv, .string cont, .slice (some ⟨gc, 0, none⟩) m m, .slice (some ⟨gr, 0, none⟩) k cap] 54 (0, 0)) ∧
    wr.ownsRow (w.heap.size + 3) 58 2 (.slice (some ⟨gr, 0, none⟩) k cap) k (rowCells ov c names k) ∧ (∀ j, j < k → wr.heap[c j]? = some (.cells #[.iface 3 (.int .i64 j)] 20 (0, 0))) ∧
    wr.heap[w.heap.size + 1]? = some (.cells #[.int .u64 x, .int .i64 e, .pointer none] 35 (0, 0)) ∧
    wr.heap[w.heap.size + 1 + 1]? = some (.cells #[E0, E0, E0, E0, .slice none 0 0, .slice none 0 0] 54 (0, 0)) ∧ Kept (fun b => b ≠ bs ∧ b ≠ bt ∧ b ≠ bk) w wr

theorem Col.kept {B bs bt bk : Nat} {x e : Int} {names : List ByteArray} {w w' : World} {vs vt : Value} (h : Col B bs bt bk x e names w vs vt) (k : Kept (fun _ => True) w w') : Col B bs bt bk x e names w' vs vt :=
  ⟨k.at h.seen trivial, k.own h.seenOwn (fun _ _ => trivial), k.at h.times trivial, k.own h.timesOwn (fun _ _ => trivial), k.at h.count trivial⟩

/-- The blocks that the closure leaves alone, seen from the world w. -/
def Safe (B bs bt bk : Nat) (w : World) (b : Nat) : Prop := b ≠ bs ∧ b ≠ bt ∧ b ≠ bk ∧ (b < B ∨ ∃ c t, w.heap[b]? = some (.cells c t (0, 0)) ∧ t ≠ 9 ∧ t ≠ 35)

theorem cells_kept {S : Nat → Prop} {W w' : World} (h : Kept S W w') {b : Nat} (hlt : b < W.heap.size) (hs : S b) : ∀ o, w'.cell? ⟨b, o, none⟩ = W.cell? ⟨b, o, none⟩ := fun o =>
  World.cell?_of_block (a := ⟨b, o, none⟩) (h.block b hlt hs)

theorem frozen_kept {S : Nat → Prop} {W w' : World} (h : Kept S W w') {b : Nat} (hlt : b < W.heap.size) (hs : S b) : ∀ o, w'.frozen? ⟨b, o, none⟩ = W.frozen? ⟨b, o, none⟩ := fun o =>
  World.frozen?_of_block (a := ⟨b, o, none⟩) (h.block b hlt hs)
theorem heap_second (w : World) (a b : Obj) : ((w.alloc a).alloc b).heap[w.heap.size + 1]? = some b := by
  have e : (w.alloc a).heap.size = w.heap.size + 1 := by simp
  rw [← e]
  exact heap_alloc_new _ _

/-- Behind the statement that calls the closure, in the round k: 'wr': the round's world. -/
def Mid (w wr : World) (bs bt bk : Nat) (x e : Int) (names : List ByteArray) (k : Nat) (s : ByteArray) (t : Value) (wx : World) : Prop :=
  ∃ (rw_ c : Nat) (vs vt : Value), t = .pointer (some ⟨rw_, 0, none⟩) ∧ wr.heap.size ≤ rw_ ∧ wr.heap.size ≤ c ∧ wx.heap[rw_]? = some (.cells #[.slice (some ⟨c, 0, none⟩) 1 1, .nilIface] 58 (0, 0)) ∧
    wx.heap[c]? = some (.cells #[.iface 3 (.int .i64 k)] 20 (0, 0)) ∧ wx.heap[wr.heap.size]? = some (.cells (objList s).toArray 37 (0, 0)) ∧ Col (w.heap.size + 3) bs bt bk x e (names.take k ++ [s]) wx vs vt ∧ Kept (Safe (w.heap.size + 3) bs bt bk wr) wr wx

/-- What is safe in wr is safe in a world that has only grown since. -/
theorem Safe.later {B bs bt bk : Nat} {wr W : World} (hW : Kept (fun _ => True) wr W) {b : Nat} (hb : b < wr.heap.size) (h : Safe B bs bt bk wr b) : Safe B bs bt bk W b := by
  refine ⟨h.1, h.2.1, h.2.2.1, ?_⟩
  rcases h.2.2.2 with h | ⟨c, t, hc, h9, h35⟩
  · exact .inl h
  · exact .inr ⟨c, t, by rw [hW.block b hb trivial, hc], h9, h35⟩

theorem Kept.safe {B bs bt bk : Nat} {wr W w' : World} (hW : Kept (fun _ => True) wr W) (h : Kept (Safe B bs bt bk W) W w') : Kept (Safe B bs bt bk wr) wr w' :=
  ⟨h.os.trans hW.os, h.tape.trans hW.tape, h.output.trans hW.output, Nat.le_trans hW.size h.size, fun b hb hs => by
    rw [h.block b (Nat.lt_of_lt_of_le hb hW.size) (hs.later hW hb), hW.block b hb trivial]⟩

theorem mid_1 {w wr W w' : World} {bs bt bk k c1 : Nat} {x e : Int} {names : List ByteArray} {s : ByteArray} {vs1 vt1 : Value} (hlen : (names.take k).length = k)
    (hW : Kept (fun _ => True) (wr.alloc (.cells (objList s).toArray 37)) W) (lb : bs < w.heap.size ∧ bt < w.heap.size ∧ bk < w.heap.size) (lw : w.heap.size ≤ wr.heap.size)
    (hc1 : W.heap.size ≤ c1) (hc2 : w'.heap[c1]? = some (.cells #[.iface 3 (.int .i64 (names.take k).length)] 20 (0, 0))) (hc3 : Col (w.heap.size + 3) bs bt bk x e (names.take k ++ [s]) w' vs1 vt1)
    (hc4 : Kept (Safe (w.heap.size + 3) bs bt bk W) W w') :
    Mid w wr bs bt bk x e names k s (.pointer (some ⟨w'.heap.size, 0, none⟩)) (w'.alloc (.cells #[.slice (some ⟨c1, 0, none⟩) 1 1, .nilIface] 58)) := by
  obtain ⟨l1, l2, l3⟩ := lb
  have hW0 : Kept (fun _ => True) wr W := ((Kept.refl _ wr).alloc _).trans hW
  have hs0 : wr.heap.size + 1 ≤ W.heap.size := by have := hW.size; simpa using this
  have hs1 := hc4.size
  have hob : w'.heap[wr.heap.size]? = some (.cells (objList s).toArray 37 (0, 0)) := by
    have hb := hW.at (heap_alloc_new wr (.cells (objList s).toArray 37)) trivial
    exact hc4.at hb ⟨by omega, by omega, by omega, .inr ⟨_, 37, hb, by decide, by decide⟩⟩
  have K1 : Kept (fun _ => True) w' (w'.alloc (.cells #[.slice (some ⟨c1, 0, none⟩) 1 1, .nilIface] 58)) := (Kept.refl _ _).alloc _
  rw [hlen] at hc2
  refine ⟨w'.heap.size, c1, vs1, vt1, rfl, by omega, by omega, heap_alloc_new _ _, K1.at hc2 trivial, K1.at hob trivial, hc3.kept K1, ?_⟩
  exact (hW0.safe hc4).alloc _

theorem mid_2 {w wr W w' : World} {bs bt bk k c1 : Nat} {x e : Int} {names : List ByteArray} {s : ByteArray} {vs1 vt1 : Value} (hlen : (names.take k).length = k)
    (hW : Kept (fun _ => True) ((wr.alloc (.cells (objList s).toArray 37)).alloc (.cells #[.slice none 0 0, .nilIface] 58)) W) (lb : bs < w.heap.size ∧ bt < w.heap.size ∧ bk < w.heap.size) (lw : w.heap.size ≤ wr.heap.size)
    (hc1 : W.heap.size ≤ c1) (hc2 : w'.heap[c1]? = some (.cells #[.iface 3 (.int .i64 (names.take k).length)] 20 (0, 0))) (hc3 : Col (w.heap.size + 3) bs bt bk x e (names.take k ++ [s]) w' vs1 vt1)
    (hc4 : Kept (Safe (w.heap.size + 3) bs bt bk W) W w') :
    Mid w wr bs bt bk x e names k s (.pointer (some ⟨wr.heap.size + 1, 0, none⟩)) ((w'.setCell ⟨wr.heap.size + 1, 0, none⟩ (.slice (some ⟨c1, 0, none⟩) 1 1)).setCell ⟨wr.heap.size + 1, 1, none⟩ .nilIface) := by
  obtain ⟨l1, l2, l3⟩ := lb
  have hW0 : Kept (fun _ => True) wr W := (((Kept.refl _ wr).alloc _).alloc _).trans hW
  have hs0 : wr.heap.size + 1 + 1 ≤ W.heap.size := by have := hW.size; simpa using this
  have hs1 := hc4.size
  have hob : w'.heap[wr.heap.size]? = some (.cells (objList s).toArray 37 (0, 0)) := by
    have hb := hW.at (show ((wr.alloc (.cells (objList s).toArray 37)).alloc (.cells #[.slice none 0 0, .nilIface] 58)).heap[wr.heap.size]? = some (.cells (objList s).toArray 37 (0, 0)) by
      rw [Below.heap_alloc _ _ _ (by simp)]; exact heap_alloc_new _ _) trivial
    exact hc4.at hb ⟨by omega, by omega, by omega, .inr ⟨_, 37, hb, by decide, by decide⟩⟩
  have hrow : w'.heap[wr.heap.size + 1]? = some (.cells #[.slice none 0 0, .nilIface] 58 (0, 0)) := by
    have hb := hW.at (heap_second wr (.cells (objList s).toArray 37) (.cells #[.slice none 0 0, .nilIface] 58)) trivial
    exact hc4.at hb ⟨by omega, by omega, by omega, .inr ⟨_, 58, hb, by decide, by decide⟩⟩
  have K1 : Kept (fun b => b ≠ wr.heap.size + 1) w' ((w'.setCell ⟨wr.heap.size + 1, 0, none⟩ (.slice (some ⟨c1, 0, none⟩) 1 1)).setCell ⟨wr.heap.size + 1, 1, none⟩ .nilIface) :=
    ((Kept.refl _ _).setCell (fun _ h => h rfl) _).setCell (fun _ h => h rfl) _
  rw [hlen] at hc2
  have hne : c1 ≠ wr.heap.size + 1 := by omega
  refine ⟨wr.heap.size + 1, c1, vs1, vt1, rfl, by omega, by omega, ?_, K1.at hc2 hne, K1.at hob (by omega), ?_, ?_⟩
  · have h1 := heap_setCell_same w' (wr.heap.size + 1) 0 _ 58 (.slice (some ⟨c1, 0, none⟩) 1 1) hrow
    have h2 := heap_setCell_same _ (wr.heap.size + 1) 1 _ 58 .nilIface h1
    exact h2
  · exact ⟨K1.at hc3.seen (ne_of_types hc3.seen hrow (by decide)), K1.own hc3.seenOwn (fun y hy e => own_ne hc3.seenOwn hrow (by decide) (by rw [hy, e])), K1.at hc3.times (ne_of_types hc3.times hrow (by decide)), K1.own hc3.timesOwn (fun y hy e => own_ne hc3.timesOwn hrow (by decide) (by rw [hy, e])), K1.at hc3.count (ne_of_types hc3.count hrow (by decide))⟩
  · have h0 := hW0.safe hc4
    exact (h0.setCell (p := ⟨wr.heap.size + 1, 0, none⟩) (fun h _ => by simp at h; omega) _).setCell (p := ⟨wr.heap.size + 1, 1, none⟩) (fun h _ => by simp at h; omega) _

/-- Behind the switch. -/
def Mid2 (wc : World) (rw_ c1 : Nat) (ov : Value) (wx : World) : Prop :=
  wx.heap[rw_]? = some (.cells #[.slice (some ⟨c1, 0, none⟩) 1 1, ov] 58 (0, 0)) ∧ Kept (fun b => b ≠ rw_) wc wx
theorem mid2_set {wc : World} {rw_ c1 : Nat} (h : wc.heap[rw_]? = some (.cells #[.slice (some ⟨c1, 0, none⟩) 1 1, .nilIface] 58 (0, 0))) (ov : Value) : Mid2 wc rw_ c1 ov (wc.setCell ⟨rw_, 1, none⟩ ov) :=
  ⟨heap_setCell_same wc rw_ 1 _ 58 ov h, (Kept.refl _ _).setCell (fun _ h => h rfl) _⟩

/-- An object's cells, in the loop's world. -/
theorem new_obj {ov : ByteArray → Value} {w wr : World} {bs bt bk tb go n k : Nat} {x e : Int} {names : List ByteArray} {tv rv cont : ByteArray} {gc m : Nat} {v1 v2 v3 : Value}
    (hob : w.ownsRow 0 37 13 (.slice (some ⟨go, 0, none⟩) n n) n (objCells names n)) (hs : w.heap[bs]? = some (.cells #[v1] 22 (0, 0))) (ht : w.heap[bt]? = some (.cells #[v2] 26 (0, 0))) (hk0 : w.heap[bk]? = some (.cells #[v3] 3 (0, 0)))
    (hL : Loop ov w bs bt bk tb x e names tv rv cont gc m k wr) (hk : k < n) {j : Nat} (hj : j < 13) : wr.cell? ⟨go, k * 13 + j, none⟩ = (objList (names.getD k ⟨#[]⟩))[j]? := by
  obtain ⟨vs, vt, gr, cap, c, h1, h2, h3, h4, h5, h6, h7⟩ := hL
  have ho := h7.own hob (fun y hy => ⟨fun e => own_ne hob hs (by decide) (by rw [hy, e]), fun e => own_ne hob ht (by decide) (by rw [hy, e]), fun e => own_ne hob hk0 (by decide) (by rw [hy, e])⟩)
  exact own_cell_flat ho (fun _ => rfl) hk hj

/-- What newTable leaves. -/
def NewPost (ov : ByteArray → Value) (w : World) (bs bt bk : Nat) (x e : Int) (names : List ByteArray) (n : Nat) (tv rv cont : ByteArray) (gc m : Nat) (r : Ending) (w' : World) : Prop :=
  ∃ (vs vt : Value) (gr cap : Nat) (c : Nat → Nat), r = .returned (.agg #[.string tableS, .string (preS ++ tv), .string rv, .string cont, .slice (some ⟨gc, 0, none⟩) m m, .slice (some ⟨gr, 0, none⟩) n cap]) ∧
    Col (w.heap.size + 3) bs bt bk x e names w' vs vt ∧ w'.ownsRow (w.heap.size + 3) 58 2 (.slice (some ⟨gr, 0, none⟩) n cap) n (rowCells ov c names n) ∧ (∀ j, j < n → w'.heap[c j]? = some (.cells #[.iface 3 (.int .i64 j)] 20 (0, 0))) ∧
    Kept (fun b => b ≠ bs ∧ b ≠ bt ∧ b ≠ bk) w w'

theorem new_end {ov : ByteArray → Value} {w wr : World} {bs bt bk n gr cap : Nat} {x e : Int} {names : List ByteArray} {tv rv cont : ByteArray} {gc m : Nat} {c : Nat → Nat} {vs vt : Value} {q0 q1 q2 q3 q4 q5 : Value}
    (hn : names.length = n) (lb : bs < w.heap.size ∧ bt < w.heap.size ∧ bk < w.heap.size)
    (h1 : Col (w.heap.size + 3) bs bt bk x e (names.take n) wr vs vt) (h3 : wr.ownsRow (w.heap.size + 3) 58 2 (.slice (some ⟨gr, 0, none⟩) n cap) n (rowCells ov c names n))
    (h4 : ∀ j, j < n → wr.heap[c j]? = some (.cells #[.iface 3 (.int .i64 j)] 20 (0, 0))) (h6 : wr.heap[w.heap.size + 1 + 1]? = some (.cells #[q0, q1, q2, q3, q4, q5] 54 (0, 0)))
    (h7 : Kept (fun b => b ≠ bs ∧ b ≠ bt ∧ b ≠ bk) w wr) {wf : World}
    (hwf : wf = ((((((wr.setCell ⟨w.heap.size + 1 + 1, 0, none⟩ (.string tableS)).setCell ⟨w.heap.size + 1 + 1, 1, none⟩ (.string (preS ++ tv))).setCell ⟨w.heap.size + 1 + 1, 2, none⟩ (.string rv)).setCell ⟨w.heap.size + 1 + 1, 3, none⟩ (.string cont)).setCell ⟨w.heap.size + 1 + 1, 4, none⟩ (.slice (some ⟨gc, 0, none⟩) m m)).setCell ⟨w.heap.size + 1 + 1, 5, none⟩ (.slice (some ⟨gr, 0, none⟩) n cap))) :
    wf.heap[w.heap.size + 1 + 1]? = some (.cells #[.string tableS, .string (preS ++ tv), .string rv, .string cont, .slice (some ⟨gc, 0, none⟩) m m, .slice (some ⟨gr, 0, none⟩) n cap] 54 (0, 0)) ∧
    NewPost ov w bs bt bk x e names n tv rv cont gc m (.returned (.agg #[.string tableS, .string (preS ++ tv), .string rv, .string cont, .slice (some ⟨gc, 0, none⟩) m m, .slice (some ⟨gr, 0, none⟩) n cap])) wf := by
  obtain ⟨l1, l2, l3⟩ := lb
  have K : Kept (fun b => b ≠ w.heap.size + 1 + 1) wr wf := by
    rw [hwf]
    exact ((((((Kept.refl _ _).setCell (fun _ h => h rfl) _).setCell (fun _ h => h rfl) _).setCell (fun _ h => h rfl) _).setCell (fun _ h => h rfl) _).setCell (fun _ h => h rfl) _).setCell (fun _ h => h rfl) _
  have htk : names.take n = names := List.take_of_length_le (by omega)
  rw [htk] at h1
  have far : ∀ {b : Nat} {C : Array Value} {t : TypeId}, wr.heap[b]? = some (.cells C t (0, 0)) → t ≠ 54 → b ≠ w.heap.size + 1 + 1 := fun hb h => ne_of_types hb h6 h
  have farOwn : ∀ {B' : Nat} {t : TypeId} {sz : Nat} {v : Value} {n : Nat} {xs : List Value}, wr.ownsRow B' t sz v n xs → t ≠ 54 → ∀ y, v.ownBlock = some y → y ≠ w.heap.size + 1 + 1 := fun ho h y hy e => own_ne ho h6 h (by rw [hy, e])
  refine ⟨?_, vs, vt, gr, cap, c, rfl, ⟨K.at h1.seen (far h1.seen (by decide)), K.own h1.seenOwn (farOwn h1.seenOwn (by decide)), K.at h1.times (far h1.times (by decide)), K.own h1.timesOwn (farOwn h1.timesOwn (by decide)), K.at h1.count (far h1.count (by decide))⟩, K.own h3 (farOwn h3 (by decide)), fun j hj => K.at (h4 j hj) (far (h4 j hj) (by decide)), ?_⟩
  · rw [hwf]
    have g0 := heap_setCell_same wr (w.heap.size + 1 + 1) 0 _ 54 (.string tableS) h6
    have g1 := heap_setCell_same _ (w.heap.size + 1 + 1) 1 _ 54 (.string (preS ++ tv)) g0
    have g2 := heap_setCell_same _ (w.heap.size + 1 + 1) 2 _ 54 (.string rv) g1
    have g3 := heap_setCell_same _ (w.heap.size + 1 + 1) 3 _ 54 (.string cont) g2
    have g4 := heap_setCell_same _ (w.heap.size + 1 + 1) 4 _ 54 (.slice (some ⟨gc, 0, none⟩) m m) g3
    exact heap_setCell_same _ (w.heap.size + 1 + 1) 5 _ 54 (.slice (some ⟨gr, 0, none⟩) n cap) g4
  · exact ⟨K.os.trans h7.os, K.tape.trans h7.tape, K.output.trans h7.output, Nat.le_trans h7.size K.size, fun b hb h => by
      rw [K.block b (Nat.lt_of_lt_of_le hb h7.size) (by omega), h7.block b hb h]⟩

theorem ov_one (inc tv s : ByteArray) : (ovOf inc tv s).oneCell' = true := by
  unfold ovOf
  split
  · rfl
  · split <;> rfl

/-- The round's end. -/
theorem new_round {ov : ByteArray → Value} {w wr wm wc w2 : World} {bs bt bk tb rw_ c1 k gr cap g2 cap2 : Nat} {x e : Int} {names : List ByteArray} {tv rv cont s : ByteArray} {gc m : Nat} {c : Nat → Nat} {vs vt vs1 vt1 : Value} {X : Obj}
    (hk : k < names.length) (hs : s = names.getD k ⟨#[]⟩) (ht : w.heap.size + 3 ≤ tb) (lb : bs < w.heap.size ∧ bt < w.heap.size ∧ bk < w.heap.size)
    (h1 : Col (w.heap.size + 3) bs bt bk x e (names.take k) wr vs vt)
    (h2 : wr.heap[tb]? = some (.cells #[.string tableS, .string (preS ++ tv), .string rv, .string cont, .slice (some ⟨gc, 0, none⟩) m m, .slice (some ⟨gr, 0, none⟩) k cap] 54 (0, 0)))
    (h3 : wr.ownsRow (w.heap.size + 3) 58 2 (.slice (some ⟨gr, 0, none⟩) k cap) k (rowCells ov c names k)) (h4 : ∀ j, j < k → wr.heap[c j]? = some (.cells #[.iface 3 (.int .i64 j)] 20 (0, 0)))
    (h5 : wr.heap[w.heap.size + 1]? = some (.cells #[.int .u64 x, .int .i64 e, .pointer none] 35 (0, 0)))
    (h6 : wr.heap[w.heap.size + 1 + 1]? = some (.cells #[E0, E0, E0, E0, .slice none 0 0, .slice none 0 0] 54 (0, 0))) (h7 : Kept (fun b => b ≠ bs ∧ b ≠ bt ∧ b ≠ bk) w wr)
    (hr1 : wr.heap.size ≤ rw_) (hr3 : wm.heap[rw_]? = some (.cells #[.slice (some ⟨c1, 0, none⟩) 1 1, .nilIface] 58 (0, 0))) (hr4 : wm.heap[c1]? = some (.cells #[.iface 3 (.int .i64 k)] 20 (0, 0)))
    (hr6 : Col (w.heap.size + 3) bs bt bk x e (names.take k ++ [s]) wm vs1 vt1) (hr7 : Kept (Safe (w.heap.size + 3) bs bt bk wr) wr wm) (hc : Kept (fun b => b ≠ rw_) wm wc)
    (own2 : w2.ownsRow (w.heap.size + 3) 58 2 (.slice (some ⟨g2, 0, none⟩) (k + 1) cap2) (k + 1) (rowCells ov c names k ++ [.slice (some ⟨c1, 0, none⟩) 1 1, ov s])) (gr2 : (wc.alloc X).grownBy w2 (some gr)) :
    Loop ov w bs bt bk tb x e names tv rv cont gc m (k + 1) (w2.setCell ⟨tb, 5, none⟩ (.slice (some ⟨g2, 0, none⟩) (k + 1) cap2)) := by
  obtain ⟨l1, l2, l3⟩ := lb
  have st : Safe (w.heap.size + 3) bs bt bk wr tb := ⟨ne_of_types h2 h1.seen (by decide), ne_of_types h2 h1.times (by decide), ne_of_types h2 h1.count (by decide), .inr ⟨_, _, h2, by decide, by decide⟩⟩
  have hT := hr7.at h2 st
  have hgr : w.heap.size + 3 ≤ gr ∧ gr < wr.heap.size := h3.lt gr rfl
  have own1 := hr7.own h3 (fun y hy => by
    have e : y = gr := by simpa [Value.ownBlock] using hy.symm
    subst e
    rcases h3.2 with ⟨h, _⟩ | ⟨g', cap', cur, h, _, hg, _⟩
    · cases h
    · simp only [Value.slice.injEq, Option.some.injEq, Addr.mk.injEq, and_true, true_and] at h
      obtain ⟨rfl, rfl⟩ := h
      exact ⟨ne_of_types hg h1.seen (by decide), ne_of_types hg h1.times (by decide), ne_of_types hg h1.count (by decide), .inr ⟨_, _, hg, by decide, by decide⟩⟩)
  have K2 : Kept (fun b => b ≠ rw_ ∧ b ≠ gr) wm w2 := ((hc.mono (fun _ _ h => h.1) : Kept (fun b => b ≠ rw_ ∧ b ≠ gr) wm wc).alloc X).grown gr2 (fun y _ e h => h.2 (by simpa using e.symm))
  have ntr : tb ≠ rw_ := ne_of_types hT hr3 (by decide)
  have ntg : tb ≠ gr := fun e => own_ne own1 hT (by decide) (by simp [Value.ownBlock, e])
  have hT2 := K2.at hT ⟨ntr, ntg⟩
  have K3 : Kept (fun b => b ≠ rw_ ∧ b ≠ gr ∧ b ≠ tb) wm (w2.setCell ⟨tb, 5, none⟩ (.slice (some ⟨g2, 0, none⟩) (k + 1) cap2)) := (K2.mono (fun _ _ h => ⟨h.1, h.2.1⟩) : Kept (fun b => b ≠ rw_ ∧ b ≠ gr ∧ b ≠ tb) wm w2).setCell (fun _ h => h.2.2 rfl) _
  have far : ∀ {b : Nat} {C : Array Value} {t : TypeId}, wm.heap[b]? = some (.cells C t (0, 0)) → t ≠ 58 → t ≠ 54 → b ≠ rw_ ∧ b ≠ gr ∧ b ≠ tb := fun hb h58 h54 =>
    ⟨ne_of_types hb hr3 h58, fun e => own_ne own1 hb (Ne.symm h58) (by simp [Value.ownBlock, e]), ne_of_types hb hT h54⟩
  have farOwn : ∀ {B' : Nat} {t : TypeId} {sz : Nat} {v : Value} {n : Nat} {xs : List Value}, wm.ownsRow B' t sz v n xs → t ≠ 58 → t ≠ 54 → ∀ y, v.ownBlock = some y → y ≠ rw_ ∧ y ≠ gr ∧ y ≠ tb := fun ho h58 h54 y hy =>
    ⟨fun e => own_ne ho hr3 h58 (by rw [hy, e]), fun e => own_apart ho own1 h58 hy (by simp [Value.ownBlock, e]), fun e => own_ne ho hT h54 (by rw [hy, e])⟩
  have htk : names.take (k + 1) = names.take k ++ [s] := by
    rw [List.take_succ_eq_append_getElem hk, hs, List.getD_eq_getElem?_getD, List.getElem?_eq_getElem hk]; rfl
  refine ⟨vs1, vt1, g2, cap2, fun j => if j = k then c1 else c j, ?_, ?_, ?_, ?_, ?_, ?_, ?_⟩
  · rw [htk]
    exact ⟨K3.at hr6.seen (far hr6.seen (by decide) (by decide)), K3.own hr6.seenOwn (farOwn hr6.seenOwn (by decide) (by decide)), K3.at hr6.times (far hr6.times (by decide) (by decide)), K3.own hr6.timesOwn (farOwn hr6.timesOwn (by decide) (by decide)), K3.at hr6.count (far hr6.count (by decide) (by decide))⟩
  · exact heap_setCell_same w2 tb 5 _ 54 _ hT2
  · have e : rowCells ov (fun j => if j = k then c1 else c j) names (k + 1) = rowCells ov c names k ++ [.slice (some ⟨c1, 0, none⟩) 1 1, ov s] := by
      unfold rowCells
      rw [flat, flat_congr (g := fun j => [.slice (some ⟨c j, 0, none⟩) 1 1, ov (names.getD j ⟨#[]⟩)]) k (fun j hj => by simp [Nat.ne_of_lt hj]), hs]
      simp
    rw [e]
    exact ownsRow_setCell_other own2 (fun h => own_ne own2 hT2 (by decide) h.symm) _
  · intro j hj
    by_cases ej : j = k
    · subst ej
      simp only [if_true]
      exact K3.at hr4 (far hr4 (by decide) (by decide))
    · simp only [ej, if_false]
      have hj' := h4 j (by omega)
      have := hr7.at hj' ⟨ne_of_types hj' h1.seen (by decide), ne_of_types hj' h1.times (by decide), ne_of_types hj' h1.count (by decide), .inr ⟨_, _, hj', by decide, by decide⟩⟩
      exact K3.at this (far this (by decide) (by decide))
  · have := hr7.at h5 ⟨by omega, by omega, by omega, .inl (by omega)⟩
    exact K3.at this (far this (by decide) (by decide))
  · have := hr7.at h6 ⟨by omega, by omega, by omega, .inl (by omega)⟩
    have hw := lt_of_block h6
    exact K3.at this ⟨by omega, by omega, by omega⟩
  · refine ⟨K3.os.trans (hr7.os.trans h7.os), K3.tape.trans (hr7.tape.trans h7.tape), K3.output.trans (hr7.output.trans h7.output), Nat.le_trans h7.size (Nat.le_trans hr7.size K3.size), fun b hb h => ?_⟩
    have b1 : b < wr.heap.size := Nat.lt_of_lt_of_le hb h7.size
    rw [K3.block b (Nat.lt_of_lt_of_le b1 hr7.size) ⟨by omega, by omega, by omega⟩, hr7.block b b1 ⟨h.1, h.2.1, h.2.2, .inl (by omega)⟩, h7.block b hb h]

set_option maxHeartbeats 4000000 in
theorem new_any (rb bs bt bk go n : Nat) (x e : Int) (names : List ByteArray) (tv inc rv cont : ByteArray) (gc m : Nat) (a0 a1 a2 a3 a4 a5 a6 a7 a8 a9 a10 : Value) (w : World)
    (hres : w.heap[rb]? = some (.cells #[a0, a1, a2, a3, a4, a5, a6, a7, a8, a9, a10, .slice (some ⟨gc, 0, none⟩) m m, .func (.func 4) #[] #[.pointer (some ⟨bs, 0, none⟩), .pointer (some ⟨bt, 0, none⟩), .pointer (some ⟨bk, 0, none⟩)]] 46 (0, 0)))
    (hob : w.ownsRow 0 37 13 (.slice (some ⟨go, 0, none⟩) n n) n (objCells names n)) (hn : names.length = n) (hn2 : n ≤ 1024) (hs0 : w.heap[bs]? = some (.cells #[.slice none 0 0] 22 (0, 0))) (ht0 : w.heap[bt]? = some (.cells #[.slice none 0 0] 26 (0, 0))) (hk0 : w.heap[bk]? = some (.cells #[.int .i64 0] 3 (0, 0)))
    (htv : tv.size ≤ 140737488351232) :
    Calls Yba.prog 6 #[.pointer (some ⟨rb, 0, none⟩), .string tv, .string inc, .slice (some ⟨go, 0, none⟩) n n, .agg #[.string rv, .string cont], timeAgg x e] w fun r w' => NewPost (ovOf inc tv) w bs bt bk x e names n tv rv cont gc m r w' := by
  have q11 : w.cell? ⟨rb, 11, none⟩ = some (.slice (some ⟨gc, 0, none⟩) m m) := cell_of_block hres
  have q12 : w.cell? ⟨rb, 12, none⟩ = some (.func (.func 4) #[] #[.pointer (some ⟨bs, 0, none⟩), .pointer (some ⟨bt, 0, none⟩), .pointer (some ⟨bk, 0, none⟩)]) := cell_of_block hres
  have lr := lt_of_block hres
  have lr1 : rb < w.heap.size + 1 := by omega
  have lr2 : rb < w.heap.size + 1 + 1 := by omega
  have lr3 : rb < w.heap.size + 1 + 1 + 1 := by omega
  have lr4 : rb < w.heap.size + 1 + 1 + 1 + 1 := by omega
  have hcat : ¬ (9223372036854775807 < 12 + tv.size) := by omega
  have HR := hid hres
  clear hres
  have HS0 := hid hs0
  have HT0 := hid ht0
  have HK0 := hid hk0
  have HOB := hid hob
  clear hs0 ht0 hk0 hob
  go_enter Yba.func6, Yba.ntmps6
  go_upto_region 1 with fail
  go_cut [13] (fun t wx => Start w x e tv rv cont gc m t wx)
  case first =>
    go_region
    all_goals (go_wp2_with fail; go_meet)
    · exact start_1 w x e tv rv cont gc m
    · exact start_2 w x e tv rv cont gc m
  case rest =>
  obtain ⟨tb, g0, rfl, ht1, ht2, ht3, ht4, ht5, ht6, ht7⟩ := hcut
  have L0 : Hid (Loop (ovOf inc tv) w bs bt bk tb x e names tv rv cont gc m 0 wc) := by
    refine ⟨.slice none 0 0, .slice none 0 0, g0, 0, fun _ => 0, ⟨ht7.at HS0.out trivial, World.ownsRow_nil _ _ _ _, ht7.at HT0.out trivial, World.ownsRow_nil _ _ _ _, ht7.at HK0.out trivial⟩, ht3, ⟨by simp [rowCells, flat], .inr ⟨g0, 0, #[], rfl, ht2, ht4, Nat.le_refl _, Nat.zero_le _, by simp, by simp [rowCells, flat]⟩⟩, fun j hj => by omega, ht5, ht6, ht7.mono fun _ _ _ => trivial⟩
  clear ht3 ht4 ht5 ht6 ht7
  go_wp2_with fail
  go_loopw [28] (fun i wr => ∃ k : Nat, k ≤ n ∧ i = .int .i64 k ∧ Hid (Loop (ovOf inc tv) w bs bt bk tb x e names tv rv cont gc m k wr)) (fun i _ => n - (intOf i).toNat)
  case atStart => exact ⟨0, Nat.zero_le _, rfl, L0⟩
  case round =>
    obtain ⟨k, hk, rfl, hL⟩ := hrel
    by_cases hlt : k < n
    · obtain ⟨s, hs⟩ : ∃ s, s = names.getD k ⟨#[]⟩ := ⟨_, rfl⟩
      have hcell : ∀ j, j < 13 → wr.cell? ⟨go, k * 13 + j, none⟩ = (objList s)[j]? := fun j hj => by
        rw [hs]; exact new_obj HOB.out HS0.out HT0.out HK0.out hL.out hlt hj
      have o0 := hcell 0 (by omega)
      have o1 := hcell 1 (by omega)
      have o2 := hcell 2 (by omega)
      have o3 := hcell 3 (by omega)
      have o4 := hcell 4 (by omega)
      have o5 := hcell 5 (by omega)
      have o6 := hcell 6 (by omega)
      have o7 := hcell 7 (by omega)
      have o8 := hcell 8 (by omega)
      have o9 := hcell 9 (by omega)
      have o10 := hcell 10 (by omega)
      have o11 := hcell 11 (by omega)
      have o12 := hcell 12 (by omega)
      simp at o0 o1 o2 o3 o4 o5 o6 o7 o8 o9 o10 o11 o12
      have HSs := hid hs
      have hlen := hid (show (names.take k).length = k by rw [List.length_take]; omega)
      clear hs hcell q11 lr1 lr2 lr3 lr4 hcat
      go_upto_region 5 with fail
      go_cut [16] (fun t wx => Mid w wr bs bt bk x e names k s t wx)
      case first =>
        obtain ⟨vs, vt, gr, cap, c, h1, h2, h3, h4, h5, h6, h7⟩ := hL.out
        have hcol := hid h1
        have r12 : wr.cell? ⟨rb, 12, none⟩ = some (.func (.func 4) #[] #[.pointer (some ⟨bs, 0, none⟩), .pointer (some ⟨bt, 0, none⟩), .pointer (some ⟨bk, 0, none⟩)]) :=
          cell_of_block (h7.at HR.out ⟨ne_of_types HR.out HS0.out (by decide), ne_of_types HR.out HT0.out (by decide), ne_of_types HR.out HK0.out (by decide)⟩)
        have y0 : wr.cell? ⟨w.heap.size + 1, 0, none⟩ = some (.int .u64 x) := cell_of_block h5
        have y1 : wr.cell? ⟨w.heap.size + 1, 1, none⟩ = some (.int .i64 e) := cell_of_block h5
        have y2 : wr.cell? ⟨w.heap.size + 1, 2, none⟩ = some (.pointer none) := cell_of_block h5
        have lrr : rb < wr.heap.size := Nat.lt_of_lt_of_le lr h7.size
        have sr := hid (show rb ≠ bs ∧ rb ≠ bt ∧ rb ≠ bk from ⟨ne_of_types HR.out HS0.out (by decide), ne_of_types HR.out HT0.out (by decide), ne_of_types HR.out HK0.out (by decide)⟩)
        have lb := hid (show bs < w.heap.size ∧ bt < w.heap.size ∧ bk < w.heap.size from ⟨lt_of_block HS0.out, lt_of_block HT0.out, lt_of_block HK0.out⟩)
        have lw := h7.size
        have lyy0 : w.heap.size < wr.heap.size := by have := lt_of_block h5; omega
        have lyy : w.heap.size + 1 < wr.heap.size := lt_of_block h5
        clear h1 h2 h3 h4 h5 h6 h7 o0 o1 o2 o3 o4 o5 o6 o7 o8 o9 o10 o11 o12 q12
        go_region_held3 (fun w' => w'.cell? ⟨rb, 12, none⟩ = some (.func (.func 4) #[] #[.pointer (some ⟨bs, 0, none⟩), .pointer (some ⟨bt, 0, none⟩), .pointer (some ⟨bk, 0, none⟩)]) ∧ w'.cell? ⟨w.heap.size + 1, 0, none⟩ = some (.int .u64 x) ∧ w'.cell? ⟨w.heap.size + 1, 1, none⟩ = some (.int .i64 e) ∧ w'.cell? ⟨w.heap.size + 1, 2, none⟩ = some (.pointer none) ∧
            w'.cell? ⟨wr.heap.size, 0, none⟩ = some (.string ⟨#[76, 101, 97, 115, 101]⟩) ∧ w'.cell? ⟨wr.heap.size, 1, none⟩ = some (.string ⟨#[118, 57]⟩) ∧ w'.cell? ⟨wr.heap.size, 2, none⟩ = some (.string s) ∧ w'.cell? ⟨wr.heap.size, 3, none⟩ = some E0 ∧ w'.cell? ⟨wr.heap.size, 4, none⟩ = some E0 ∧ w'.cell? ⟨wr.heap.size, 5, none⟩ = some E0 ∧ w'.cell? ⟨wr.heap.size, 6, none⟩ = some E0 ∧
            w'.cell? ⟨wr.heap.size, 7, none⟩ = some (.map none) ∧ w'.cell? ⟨wr.heap.size, 8, none⟩ = some (.map none) ∧ w'.cell? ⟨wr.heap.size, 9, none⟩ = some (.map none) ∧ w'.cell? ⟨wr.heap.size, 10, none⟩ = some (.int .u64 0) ∧ w'.cell? ⟨wr.heap.size, 11, none⟩ = some (.int .i64 0) ∧ w'.cell? ⟨wr.heap.size, 12, none⟩ = some (.pointer none))
          (simp [go_sem, *])
          ((go_at_call 4; refine (closure_any (w.heap.size + 3) bs bt bk x e (names.take k) s vs vt _ ?_ ?_ ?_).mono ?_; (simp; omega); (simp; omega); (exact hcol.out.kept (by repeat (first | exact Kept.refl _ _ | apply Kept.drew | apply Kept.alloc))); rintro r w' ⟨c1, vs1, vt1, rfl, hc1, hc2, hc3, hc4⟩
            have g3 : wr.heap.size < w'.heap.size := by (have := hc4.size; simp at this; omega)
            have g1 : rb < w'.heap.size := by omega
            have g2 : w.heap.size + 1 < w'.heap.size := by omega
            have g0 : w.heap.size < w'.heap.size := by omega
            have e1 := cells_kept hc4 (b := rb) (by simp; omega) ⟨sr.out.1, sr.out.2.1, sr.out.2.2, .inl (by omega)⟩
            have e2 := cells_kept hc4 (b := w.heap.size + 1) (by simp; omega) (by obtain ⟨l1, l2, l3⟩ := lb.out; exact ⟨by omega, by omega, by omega, .inl (by omega)⟩)
            have e3 := cells_kept hc4 (b := wr.heap.size) (by simp <;> omega) (by obtain ⟨l1, l2, l3⟩ := lb.out; exact ⟨by omega, by omega, by omega, .inr ⟨_, 37, (show Kept (fun _ => True) (wr.alloc (.cells (objList s).toArray 37)) _ from (by repeat (first | exact Kept.refl _ _ | apply Kept.drew | apply Kept.alloc))).at (heap_alloc_new _ _) trivial, by decide, by decide⟩⟩)
            try (have lz := hid (show wr.heap.size + 1 < _ ∧ Safe (w.heap.size + 3) bs bt bk _ (wr.heap.size + 1) from ⟨Nat.lt_of_lt_of_le (by simp) hc4.size, by obtain ⟨l1, l2, l3⟩ := lb.out; exact ⟨by omega, by omega, by omega, .inr ⟨_, 58, heap_second wr (.cells (objList s).toArray 37) (.cells #[.slice none 0 0, .nilIface] 58), by decide, by decide⟩⟩⟩)
                 have e4 := cells_kept hc4 (b := wr.heap.size + 1) (by simp) lz.out.2
                 have f4 := frozen_kept hc4 (b := wr.heap.size + 1) (by simp) lz.out.2)))
        all_goals (go_wp2_with fail; go_meet)
        · exact mid_1 hlen.out (by repeat (first | exact Kept.refl _ _ | apply Kept.drew | apply Kept.alloc)) lb.out lw hc1 hc2 hc3 hc4
        · exact mid_2 hlen.out (by repeat (first | exact Kept.refl _ _ | apply Kept.drew | apply Kept.alloc)) lb.out lw hc1 hc2 hc3 hc4
      case rest =>
      obtain ⟨wm, rfl⟩ : ∃ wm : World, wm = wc := ⟨_, rfl⟩
      obtain ⟨rw_, c1, vs1, vt1, rfl, hr1, hr2, hr3, hr4, hr5, hr6, hr7⟩ := hcut
      obtain ⟨vs, vt, gr, cap, c, h1, h2, h3, h4, h5, h6, h7⟩ := hL.out
      have T := hr7.at h2 ⟨ne_of_types h2 h1.seen (by decide), ne_of_types h2 h1.times (by decide), ne_of_types h2 h1.count (by decide), .inr ⟨_, _, h2, by decide, by decide⟩⟩
      have t1 : wm.cell? ⟨tb, 1, none⟩ = some (.string (preS ++ tv)) := cell_of_block T
      have t5 : wm.cell? ⟨tb, 5, none⟩ = some (.slice (some ⟨gr, 0, none⟩) k cap) := cell_of_block T
      have ft5 : wm.frozen? ⟨tb, 5, none⟩ = false := frozen_of_row wm tb 5 _ 54 T
      have b0 : wm.cell? ⟨wr.heap.size, 0, none⟩ = some (.string ⟨#[76, 101, 97, 115, 101]⟩) := cell_of_block hr5
      have b1 : wm.cell? ⟨wr.heap.size, 1, none⟩ = some (.string ⟨#[118, 57]⟩) := cell_of_block hr5
      have b2 : wm.cell? ⟨wr.heap.size, 2, none⟩ = some (.string s) := cell_of_block hr5
      have b3 : wm.cell? ⟨wr.heap.size, 3, none⟩ = some E0 := cell_of_block hr5
      have b4 : wm.cell? ⟨wr.heap.size, 4, none⟩ = some E0 := cell_of_block hr5
      have b5 : wm.cell? ⟨wr.heap.size, 5, none⟩ = some E0 := cell_of_block hr5
      have b6 : wm.cell? ⟨wr.heap.size, 6, none⟩ = some E0 := cell_of_block hr5
      have b7 : wm.cell? ⟨wr.heap.size, 7, none⟩ = some (.map none) := cell_of_block hr5
      have b8 : wm.cell? ⟨wr.heap.size, 8, none⟩ = some (.map none) := cell_of_block hr5
      have b9 : wm.cell? ⟨wr.heap.size, 9, none⟩ = some (.map none) := cell_of_block hr5
      have b10 : wm.cell? ⟨wr.heap.size, 10, none⟩ = some (.int .u64 0) := cell_of_block hr5
      have b11 : wm.cell? ⟨wr.heap.size, 11, none⟩ = some (.int .i64 0) := cell_of_block hr5
      have b12 : wm.cell? ⟨wr.heap.size, 12, none⟩ = some (.pointer none) := cell_of_block hr5
      have d0 : wm.cell? ⟨rw_, 0, none⟩ = some (.slice (some ⟨c1, 0, none⟩) 1 1) := cell_of_block hr3
      have d1 : wm.cell? ⟨rw_, 1, none⟩ = some .nilIface := cell_of_block hr3
      have fd1 : wm.frozen? ⟨rw_, 1, none⟩ = false := frozen_of_row wm rw_ 1 _ 58 hr3
      clear o0 o1 o2 o3 o4 o5 o6 o7 o8 o9 o10 o11 o12 q12
      have G1 := hid h1
      have G2 := hid h2
      have G3 := hid h3
      have G4 := hid h4
      have G5 := hid h5
      have G6 := hid h6
      have G7 := hid h7
      have G8 := hid hr3
      have G9 := hid hr4
      have G10 := hid hr5
      have G11 := hid hr6
      have G12 := hid hr7
      have G13 := hid T
      clear h1 h2 h3 h4 h5 h6 h7 hr3 hr4 hr5 hr6 hr7 T
      go_upto_block 2 with fail
      go_cut [] (fun wx => Mid2 wm rw_ c1 (ovOf inc tv s) wx)
      case first =>
        go_wp2
        all_goals go_meet
        · have e1 : (inc.toList == noneL) = true := by assumption
          have e : ovOf inc tv s = .nilIface := by unfold ovOf; rw [if_pos e1]
          rw [e]
          exact ⟨G8.out, Kept.refl _ _⟩
        · have e1 : (inc.toList == noneL) = false := by assumption
          have e2 : (inc.toList == objectL) = true := by assumption
          have e : ovOf inc tv s = .iface 37 (objAgg s) := by unfold ovOf; rw [if_neg (by rw [e1]; decide), if_pos e2]
          rw [e]
          exact mid2_set G8.out _
        · have e1 : (inc.toList == noneL) = false := by assumption
          have e2 : (inc.toList == objectL) = false := by assumption
          have e : ovOf inc tv s = .iface 62 (partAgg (preS ++ tv) s) := by unfold ovOf; rw [if_neg (by rw [e1]; decide), if_neg (by rw [e2]; decide)]
          rw [e]
          exact mid2_set G8.out _
      case rest =>
      obtain ⟨hm1, hm2⟩ := hcut
      have lgr := G3.out.lt gr rfl
      have T2 := hm2.at G13.out (ne_of_types G13.out G8.out (by decide))
      have own3 : wc.ownsRow (w.heap.size + 3) 58 2 (.slice (some ⟨gr, 0, none⟩) k cap) k (rowCells (ovOf inc tv) c names k) := by
        have h1 := G1.out
        have h3 := G3.out
        have own1 := G12.out.own h3 (fun y hy => by
          have e : y = gr := by simpa [Value.ownBlock] using hy.symm
          subst e
          rcases h3.2 with ⟨h, _⟩ | ⟨g', cap', cur, h, _, hg, _⟩
          · cases h
          · simp only [Value.slice.injEq, Option.some.injEq, Addr.mk.injEq, and_true, true_and] at h
            obtain ⟨rfl, rfl⟩ := h
            exact ⟨ne_of_types hg h1.seen (by decide), ne_of_types hg h1.times (by decide), ne_of_types hg h1.count (by decide), .inr ⟨_, _, hg, by decide, by decide⟩⟩)
        exact hm2.own own1 (fun y hy e => by
          have e' : y = gr := by simpa [Value.ownBlock] using hy.symm
          omega)
      have t5' : wc.cell? ⟨tb, 5, none⟩ = some (.slice (some ⟨gr, 0, none⟩) k cap) := cell_of_block T2
      have d0' : wc.cell? ⟨rw_, 0, none⟩ = some (.slice (some ⟨c1, 0, none⟩) 1 1) := cell_of_block hm1
      have d1' : wc.cell? ⟨rw_, 1, none⟩ = some (ovOf inc tv s) := cell_of_block hm1
      have ltb : tb < wc.heap.size := lt_of_block T2
      have lsz : w.heap.size + 3 ≤ wc.heap.size := by omega
      obtain ⟨i58, hi58, hz58, hs58, hb58⟩ := info_parts info58
      have M1 := hid hm1
      have M2 := hid hm2
      have TT := hid T2
      have OW := hid own3
      clear hm1 hm2 T2 own3 t1 t5 ft5 b0 b1 b2 b3 b4 b5 b6 b7 b8 b9 b10 b11 b12 d0 d1 fd1
      go_wp2_with (at_builtin; (refine wpList_append_lies _ rfl (.tmp 56) (.tmp 58) 52 rfl (w.heap.size + 3) 58 i58 (.agg #[.slice none 0 0, .nilIface]) 2 40 Yba.underlying52 hi58 hz58 hs58 hb58 rfl (by decide) (.slice (some ⟨gr, 0, none⟩) k cap) k (rowCells (ovOf inc tv) c names k) rfl (OW.out.alloc _) ⟨wc.heap.size, 0, none⟩ 1 1 [.slice (some ⟨c1, 0, none⟩) 1 1, ovOf inc tv s] rfl rfl ?n3 ?o3 (by omega) ?m3 ?b3 ?s3 (wc.heap.size + 1) ?z3 ?_))
      case n3 =>
        intro j u hu
        match j, hu with
        | 0, hu => simp at hu; subst hu; simp [Addr.add, go_sem]
        | 1, hu => simp at hu; subst hu; simp [Addr.add, go_sem]
      case o3 =>
        intro u hu
        simp only [List.mem_cons, List.not_mem_nil, or_false] at hu
        rcases hu with rfl | rfl
        · rfl
        · exact ov_one inc tv s
      case m3 => unfold maxLen; omega
      case b3 => omega
      case s3 => simp; omega
      case z3 => simp
      intro g2 cap2 w2 own2 gr2 at2 lt2
      have T3 : w2.heap[tb]? = some (.cells #[.string tableS, .string (preS ++ tv), .string rv, .string cont, .slice (some ⟨gc, 0, none⟩) m m, .slice (some ⟨gr, 0, none⟩) k cap] 54 (0, 0)) := by
        rw [gr2.block tb (by simp; omega) (own_ne OW.out TT.out (by decide)), Below.heap_alloc _ _ _ ltb]
        exact TT.out
      have u5 : w2.cell? ⟨tb, 5, none⟩ = some (.slice (some ⟨gr, 0, none⟩) k cap) := cell_of_block T3
      have fu5 : w2.frozen? ⟨tb, 5, none⟩ = false := frozen_of_row w2 tb 5 _ 54 T3
      have R := hid (new_round (by omega) HSs.out ht1 ⟨lt_of_block HS0.out, lt_of_block HT0.out, lt_of_block HK0.out⟩ G1.out G2.out G3.out G4.out G5.out G6.out G7.out hr1 G8.out G9.out G11.out G12.out M2.out own2 gr2)
      clear own2 gr2 T3 t5' d0' d1' at2 lt2
      go_wp2
      go_roundw
      case rel => exact ⟨k + 1, by omega, by go_num, R⟩
      case measure => simp [intOf]; omega
    · obtain rfl : k = n := by omega
      obtain ⟨vs, vt, gr, cap, c, h1, h2, h3, h4, h5, h6, h7⟩ := hL.out
      have t0 : wr.cell? ⟨tb, 0, none⟩ = some (.string tableS) := cell_of_block h2
      have t1 : wr.cell? ⟨tb, 1, none⟩ = some (.string (preS ++ tv)) := cell_of_block h2
      have t2 : wr.cell? ⟨tb, 2, none⟩ = some (.string rv) := cell_of_block h2
      have t3 : wr.cell? ⟨tb, 3, none⟩ = some (.string cont) := cell_of_block h2
      have t4 : wr.cell? ⟨tb, 4, none⟩ = some (.slice (some ⟨gc, 0, none⟩) m m) := cell_of_block h2
      have t5 : wr.cell? ⟨tb, 5, none⟩ = some (.slice (some ⟨gr, 0, none⟩) k cap) := cell_of_block h2
      have z0 : wr.cell? ⟨w.heap.size + 1 + 1, 0, none⟩ = some E0 := cell_of_block h6
      have z1 : wr.cell? ⟨w.heap.size + 1 + 1, 1, none⟩ = some E0 := cell_of_block h6
      have z2 : wr.cell? ⟨w.heap.size + 1 + 1, 2, none⟩ = some E0 := cell_of_block h6
      have z3 : wr.cell? ⟨w.heap.size + 1 + 1, 3, none⟩ = some E0 := cell_of_block h6
      have z4 : wr.cell? ⟨w.heap.size + 1 + 1, 4, none⟩ = some (.slice none 0 0) := cell_of_block h6
      have z5 : wr.cell? ⟨w.heap.size + 1 + 1, 5, none⟩ = some (.slice none 0 0) := cell_of_block h6
      have f0 : ∀ o, wr.frozen? ⟨w.heap.size + 1 + 1, o, none⟩ = false := fun o => frozen_of_row wr _ o _ 54 h6
      have G1 := hid h1
      have G2 := hid h2
      have G3 := hid h3
      have G4 := hid h4
      have G6 := hid h6
      have G7 := hid h7
      clear h1 h2 h3 h4 h5 h6 h7 q11 q12 lr1 lr2 lr3 lr4
      go_wp2
      obtain ⟨wf, hwf⟩ : ∃ wf : World, wf = ((((((wr.setCell ⟨w.heap.size + 1 + 1, 0, none⟩ (.string tableS)).setCell ⟨w.heap.size + 1 + 1, 1, none⟩ (.string (preS ++ tv))).setCell ⟨w.heap.size + 1 + 1, 2, none⟩ (.string rv)).setCell ⟨w.heap.size + 1 + 1, 3, none⟩ (.string cont)).setCell ⟨w.heap.size + 1 + 1, 4, none⟩ (.slice (some ⟨gc, 0, none⟩) m m)).setCell ⟨w.heap.size + 1 + 1, 5, none⟩ (.slice (some ⟨gr, 0, none⟩) k cap)) := ⟨_, rfl⟩
      rw [← hwf]
      obtain ⟨e1, e2⟩ := new_end hn ⟨lt_of_block HS0.out, lt_of_block HT0.out, lt_of_block HK0.out⟩ G1.out G3.out G4.out G6.out G7.out hwf
      have v0 : wf.cell? ⟨w.heap.size + 1 + 1, 0, none⟩ = some (.string tableS) := cell_of_block e1
      have v1 : wf.cell? ⟨w.heap.size + 1 + 1, 1, none⟩ = some (.string (preS ++ tv)) := cell_of_block e1
      have v2 : wf.cell? ⟨w.heap.size + 1 + 1, 2, none⟩ = some (.string rv) := cell_of_block e1
      have v3 : wf.cell? ⟨w.heap.size + 1 + 1, 3, none⟩ = some (.string cont) := cell_of_block e1
      have v4 : wf.cell? ⟨w.heap.size + 1 + 1, 4, none⟩ = some (.slice (some ⟨gc, 0, none⟩) m m) := cell_of_block e1
      have v5 : wf.cell? ⟨w.heap.size + 1 + 1, 5, none⟩ = some (.slice (some ⟨gr, 0, none⟩) k cap) := cell_of_block e1
      exact bodyPost_ret (v := .agg #[.string tableS, .string (preS ++ tv), .string rv, .string cont, .slice (some ⟨gc, 0, none⟩) m m, .slice (some ⟨gr, 0, none⟩) k cap]) (by simp [results, Yba.results6, go_sem, v0, v1, v2, v3, v4, v5]) rfl e2
end Go.Proofs.Ybulkkjs
