/-
  LawS0551ATable (function 3): the walk. By an AI agent.
-/
import Derived.Test.YbulkkjsNew
import Derived.Test.YbulkkjsFill
import Derived.Test.YbulkkjsTime
import Derived.BigQuiet
import Derived.Lib.SliceRun
import Derived.Stop.LaidErr
namespace Go.Proofs.Ybulkkjs
open Go.RowKit

/-- A slice of strings that came in. -/
structure StrSlice (ao : Option Addr) (len cap : Nat) (ad : Nat → Addr) (ss : List ByteArray) (w : World) : Prop where
  idx : ∀ k : Nat, k < len → ∀ w1 : World, (Instr.indexAt 22 (.slice ao len cap) (.int .i64 k)).run Yba.prog w1 = .ok (.pointer (some (ad k))) w1
  cell : ∀ k, k < len → w.cell? (ad k) = some (.string (ss.getD k ⟨#[]⟩))
  length : ss.length = len
  room : len ≤ maxLen

theorem StrSlice.lt {ao : Option Addr} {len cap : Nat} {ad : Nat → Addr} {ss : List ByteArray} {w : World} (h : StrSlice ao len cap ad ss w) {k : Nat} (hk : k < len) : (ad k).block < w.heap.size :=
  World.block_lt_of_cell? w _ (h.cell k hk)

abbrev colList (s : ByteArray) (i : Nat) : List Value := [.string s, E0, E0, E0, .int .i64 i]
/-- The columns' cells. -/
def colF (cols : List ByteArray) (j : Nat) : List Value := colList (cols.getD j ⟨#[]⟩) j
def objF (names : List ByteArray) (j : Nat) : List Value := objList (names.getD j ⟨#[]⟩)

set_option maxRecDepth 100000 in
theorem law_big1 (ao co : Option Addr) (len cap lenc capc : Nat) (tv incl rv cont : ByteArray) (sel n : Int) (w : World) (h : 1024 < len) (hl : len ≤ maxLen) :
    Calls Yba.prog 3 #[.slice ao len cap, .slice co lenc capc, .string tv, .int .u8 sel, .string incl, .string rv, .string cont, .int .i64 n] w fun r w' => r = .returned (.bool true) ∧ Below w.heap.size w w' := by
  unfold maxLen at hl
  have h' : (1024 : Int) < len := by omega
  go_enter Yba.func3, Yba.ntmps3
  go_wp2
  go_ret
  exact ⟨rfl, Below.refl _ _⟩

set_option maxRecDepth 100000 in
theorem law_big2 (ao co : Option Addr) (len cap lenc capc : Nat) (tv incl rv cont : ByteArray) (sel n : Int) (w : World) (h : ¬ 1024 < len) (h2 : 1024 < lenc) (hl : lenc ≤ maxLen) :
    Calls Yba.prog 3 #[.slice ao len cap, .slice co lenc capc, .string tv, .int .u8 sel, .string incl, .string rv, .string cont, .int .i64 n] w fun r w' => r = .returned (.bool true) ∧ Below w.heap.size w w' := by
  unfold maxLen at hl
  have h' : ¬ (1024 : Int) < len := by omega
  have h2' : (1024 : Int) < lenc := by omega
  go_enter Yba.func3, Yba.ntmps3
  go_wp2
  go_ret
  exact ⟨rfl, Below.refl _ _⟩

abbrev resCells (gc m bs : Nat) : Array Value := #[E0, E0, E0, E0, E0, .slice none 0 0, .slice none 0 0, .nilFunc, .nilFunc, .nilFunc, .map none, .slice (some ⟨gc, 0, none⟩) m m,
  .func (.func 4) #[] #[.pointer (some ⟨bs, 0, none⟩), .pointer (some ⟨bs + 1, 0, none⟩), .pointer (some ⟨bs + 1 + 1, 0, none⟩)]]

/-- What the law's own variables hold ahead of the call of newTable: from block bs on: seen, times, k, the resource. -/
structure Base (w : World) (bs m : Nat) (cols : List ByteArray) (wx : World) : Prop where
  seen : wx.heap[bs]? = some (.cells #[.slice none 0 0] 22 (0, 0))
  times : wx.heap[bs + 1]? = some (.cells #[.slice none 0 0] 26 (0, 0))
  count : wx.heap[bs + 1 + 1]? = some (.cells #[.int .i64 0] 3 (0, 0))
  res : wx.heap[bs + 1 + 1 + 1]? = some (.cells (resCells w.heap.size m bs) 46 (0, 0))
  cols : wx.ownsRow w.heap.size 25 5 (.slice (some ⟨w.heap.size, 0, none⟩) m m) m (flat (colF cols) m)
  below : Below w.heap.size w wx
  le : w.heap.size ≤ bs

theorem Kept.below {S : Nat → Prop} {B : Nat} {w a b : World} (h : Kept S a b) (hb : Below B w a) (hB : B ≤ a.heap.size) (hs : ∀ y, y < B → S y) : Below B w b :=
  hb.trans ⟨h.os, h.tape, h.output, h.size, fun k hk => h.block k (by omega) (hs k hk)⟩

theorem below_kept {S : Nat → Prop} {w w' : World} (h : Below w.heap.size w w') : Kept S w w' := ⟨h.os, h.tape, h.output, h.size, fun b hb _ => h.block b hb⟩

theorem Base.size {w wx : World} {bs m : Nat} {cols : List ByteArray} (h : Base w bs m cols wx) : w.heap.size ≤ wx.heap.size := h.below.size

/-- Only blocks from H on have turned, H beyond the law's four: all stands. -/
theorem Base.kept {w wx wy : World} {bs m : Nat} {cols : List ByteArray} {S : Nat → Prop} (h : Base w bs m cols wx) (k : Kept S wx wy) (hs : ∀ y, y < bs + 1 + 1 + 1 + 1 → S y) (hg : w.heap.size < bs) : Base w bs m cols wy :=
  ⟨k.at h.seen (hs _ (by omega)), k.at h.times (hs _ (by omega)), k.at h.count (hs _ (by omega)), k.at h.res (hs _ (by omega)), k.own h.cols (fun y hy => by
      have e : y = w.heap.size := by simpa [Value.ownBlock] using hy.symm
      exact hs y (by omega)), k.below h.below h.size (fun y hy => hs y (by omega)), h.le⟩

theorem base_start {w wr w2 : World} {m : Nat} {cols : List ByteArray} (own : wr.ownsRow w.heap.size 25 5 (.slice (some ⟨w.heap.size, 0, none⟩) m m) m (flat (colF cols) m)) (hb : Below w.heap.size w wr)
    (gr : ((((wr.alloc (.cells #[.slice none 0 0] 22)).alloc (.cells #[.slice none 0 0] 26)).alloc (.cells #[.int .i64 0] 3)).alloc (.cells (resCells w.heap.size m wr.heap.size) 46)).grownBy w2 none) :
    Base w wr.heap.size m cols w2 ∧ w.heap.size < wr.heap.size ∧ wr.heap.size + 1 + 1 + 1 + 1 ≤ w2.heap.size := by
  have lt := (own.lt w.heap.size rfl).2
  have K : Kept (fun _ => True) ((((wr.alloc (.cells #[.slice none 0 0] 22)).alloc (.cells #[.slice none 0 0] 26)).alloc (.cells #[.int .i64 0] 3)).alloc (.cells (resCells w.heap.size m wr.heap.size) 46)) w2 :=
    (Kept.refl _ _).grown gr (fun x _ e => by cases e)
  have K0 : Kept (fun _ => True) wr w2 := (((((Kept.refl _ wr).alloc _).alloc _).alloc _).alloc _).trans K
  have e1 : (wr.alloc (.cells #[.slice none 0 0] 22)).heap.size = wr.heap.size + 1 := by simp
  have e2 : ((wr.alloc (.cells #[.slice none 0 0] 22)).alloc (.cells #[.slice none 0 0] 26)).heap.size = wr.heap.size + 1 + 1 := by simp
  have e3 : (((wr.alloc (.cells #[.slice none 0 0] 22)).alloc (.cells #[.slice none 0 0] 26)).alloc (.cells #[.int .i64 0] 3)).heap.size = wr.heap.size + 1 + 1 + 1 := by simp
  refine ⟨⟨K.at ?_ trivial, K.at ?_ trivial, K.at ?_ trivial, K.at ?_ trivial, K0.own own (fun _ _ => trivial), K0.below hb (Nat.le_of_lt lt) (fun _ _ => trivial), Nat.le_of_lt lt⟩, lt, by have := K.size; simpa using this⟩
  · rw [Below.heap_alloc _ _ _ (by simp <;> omega), Below.heap_alloc _ _ _ (by simp <;> omega), Below.heap_alloc _ _ _ (by simp <;> omega)]; exact heap_alloc_new _ _
  · rw [Below.heap_alloc _ _ _ (by simp <;> omega), Below.heap_alloc _ _ _ (by simp <;> omega), ← e1]; exact heap_alloc_new _ _
  · rw [Below.heap_alloc _ _ _ (by simp <;> omega), ← e2]; exact heap_alloc_new _ _
  · rw [← e3]; exact heap_alloc_new _ _

/-- Behind the switch on sel. -/
def IncRel (w3 : World) (t : Value) (wx : World) : Prop := ∃ inc : ByteArray, t = .string inc ∧ wx = w3
/-- The mode that the argument asks for. -/
def modeOf (inc : ByteArray) : Int := if (inc.toList == noneL) = true then 0 else if (inc.toList == objectL) = true then 1 else 2
def ModeRel (inc : ByteArray) (w3 : World) (t : Value) (wx : World) : Prop := t = .int .i64 (modeOf inc) ∧ wx = w3

theorem own_base {w : World} {B : Nat} {e : TypeId} {c : Nat} {v : Value} {n : Nat} {xs : List Value} (h : w.ownsRow B e c v n xs) : w.ownsRow 0 e c v n xs := by
  refine ⟨h.1, ?_⟩
  rcases h.2 with hn | ⟨g, cap, cur, hv, _, rest⟩
  · exact .inl hn
  · exact .inr ⟨g, cap, cur, hv, Nat.zero_le _, rest⟩

theorem own_form {w : World} {B : Nat} {e : TypeId} {c : Nat} {v : Value} {n : Nat} {xs : List Value} (h : w.ownsRow B e c v n xs) : ∃ ao cap, v = .slice ao n cap ∧ (0 < n → ∃ g, ao = some ⟨g, 0, none⟩) := by
  rcases h.2 with ⟨rfl, rfl⟩ | ⟨g, cap, cur, rfl, _⟩
  · exact ⟨none, 0, rfl, fun h => by omega⟩
  · exact ⟨some ⟨g, 0, none⟩, cap, rfl, fun _ => ⟨g, rfl⟩⟩

/-- What stands behind the call of newTable, whatever new memory is made. -/
structure Fin (ov : ByteArray → Value) (w : World) (bs nb : Nat) (x e : Int) (names cols : List ByteArray) (n m : Nat) (vs vt : Value) (gr cap : Nat) (c : Nat → Nat) (wx : World) : Prop where
  seen : wx.heap[bs]? = some (.cells #[vs] 22 (0, 0))
  seenOwn : wx.ownsRow 0 9 1 vs n (names.map Value.string)
  times : wx.heap[bs + 1]? = some (.cells #[vt] 26 (0, 0))
  timesOwn : wx.ownsRow 0 35 3 vt n (timeCells x e n)
  rows : wx.ownsRow 0 58 2 (.slice (some ⟨gr, 0, none⟩) n cap) n (rowCells ov c names n)
  cells : ∀ j, j < n → wx.heap[c j]? = some (.cells #[.iface 3 (.int .i64 j)] 20 (0, 0))
  cols : wx.ownsRow 0 25 5 (.slice (some ⟨w.heap.size, 0, none⟩) m m) m (flat (colF cols) m)
  now : wx.heap[nb]? = some (.cells #[.int .u64 x, .int .i64 e, .pointer none] 35 (0, 0))
  below : Below w.heap.size w wx

theorem Fin.kept {ov : ByteArray → Value} {w wx wy : World} {bs nb : Nat} {x e : Int} {names cols : List ByteArray} {n m : Nat} {vs vt : Value} {gr cap : Nat} {c : Nat → Nat} (h : Fin ov w bs nb x e names cols n m vs vt gr cap c wx) (k : Kept (fun _ => True) wx wy) :
    Fin ov w bs nb x e names cols n m vs vt gr cap c wy :=
  ⟨k.at h.seen trivial, k.own h.seenOwn (fun _ _ => trivial), k.at h.times trivial, k.own h.timesOwn (fun _ _ => trivial), k.own h.rows (fun _ _ => trivial), fun j hj => k.at (h.cells j hj) trivial, k.own h.cols (fun _ _ => trivial), k.at h.now trivial,
    k.below h.below h.below.size (fun _ _ => trivial)⟩

theorem fin_start {ov : ByteArray → Value} {w w3 w4 w6 : World} {bs : Nat} {x e : Int} {names cols : List ByteArray} {n m : Nat} {vs vt : Value} {gr cap B : Nat} {c : Nat → Nat}
    (BC : Base w bs m cols w3) (lt1 : w.heap.size < bs) (lt3 : bs + 1 + 1 + 1 + 1 ≤ w3.heap.size) (K4 : Kept (fun _ => True) w3 w4) (hn : names.length = n)
    (hcol : Col B bs (bs + 1) (bs + 1 + 1) x e names w6 vs vt) (hrow : w6.ownsRow B 58 2 (.slice (some ⟨gr, 0, none⟩) n cap) n (rowCells ov c names n)) (hcells : ∀ j, j < n → w6.heap[c j]? = some (.cells #[.iface 3 (.int .i64 j)] 20 (0, 0)))
    (hK : Kept (fun b => b ≠ bs ∧ b ≠ bs + 1 ∧ b ≠ bs + 1 + 1) (w4.alloc (.cells #[.int .u64 x, .int .i64 e, .pointer none] 35)) w6) :
    Fin ov w bs w4.heap.size x e names cols n m vs vt gr cap c w6 := by
  have K5 : Kept (fun b => b ≠ bs ∧ b ≠ bs + 1 ∧ b ≠ bs + 1 + 1) w3 w6 := ((K4.mono (fun _ _ _ => trivial)).alloc _).trans hK
  have s4 := K4.size
  have so := own_base hcol.seenOwn
  have to' := own_base hcol.timesOwn
  rw [hn] at so to'
  exact ⟨hcol.seen, so, hcol.times, to', own_base hrow, hcells, own_base (K5.own BC.cols (fun y hy => by
      have e : y = w.heap.size := by simpa [Value.ownBlock] using hy.symm
      omega)), hK.at (heap_alloc_new _ _) (by omega), K5.below BC.below BC.size (fun y hy => by omega)⟩

theorem Kept.drewN {S : Nat → Prop} {a b : World} (h : Kept S a b) {n : Nat} : Kept S a (b.drewN n) := ⟨h.os, h.tape, h.output, h.size, h.block⟩

theorem ta3 (v : Value) (w : World) : (Instr.typeAssert (.iface 3 v) 20 3 true).run Yba.prog w = .ok (.tuple #[v, .bool true]) w := by kernel_rfl
theorem ta37 (v : Value) (w : World) : (Instr.typeAssert (.iface 37 v) 20 37 true).run Yba.prog w = .ok (.tuple #[v, .bool true]) w := by kernel_rfl
theorem ta62 (v : Value) (w : World) : (Instr.typeAssert (.iface 62 v) 20 62 true).run Yba.prog w = .ok (.tuple #[v, .bool true]) w := by kernel_rfl

theorem fill13 {B g n k : Nat} {names : List ByteArray} {w : World} {s : ByteArray} (h : Fill B 37 13 g n (objF names) k w) (hk : k < n) (hs : s = names.getD k ⟨#[]⟩) :
    Fill B 37 13 g n (objF names) (k + 1) (w.setCells g (k * 13) (objList s)) := by
  subst hs
  exact h.step rfl hk

theorem fill5 {B g n k : Nat} {cols : List ByteArray} {w : World} {s : ByteArray} (h : Fill B 25 5 g n (colF cols) k w) (hk : k < n) (hs : s = cols.getD k ⟨#[]⟩) :
    Fill B 25 5 g n (colF cols) (k + 1) (((((w.setCell ⟨g, k * 5, none⟩ (.string s)).setCell ⟨g, k * 5 + 1, none⟩ E0).setCell ⟨g, k * 5 + 2, none⟩ E0).setCell ⟨g, k * 5 + 3, none⟩ E0).setCell ⟨g, k * 5 + 4, none⟩ (.int .i64 k)) := by
  subst hs
  exact h.step rfl hk

set_option maxRecDepth 100000 in
set_option maxHeartbeats 4000000 in
theorem law_small (ao co : Option Addr) (len cap lenc capc : Nat) (adN adC : Nat → Addr) (names cols : List ByteArray) (tv incl rv cont : ByteArray) (sel n : Int) (w : World) (h1 : ¬ 1024 < len) (h2 : ¬ 1024 < lenc)
    (hN : StrSlice ao len cap adN names w) (hC : StrSlice co lenc capc adC cols w) (hs0 : 0 ≤ sel) (hs1 : sel ≤ 255) (htv : tv.size ≤ 140737488351232) :
    Calls Yba.prog 3 #[.slice ao len cap, .slice co lenc capc, .string tv, .int .u8 sel, .string incl, .string rv, .string cont, .int .i64 n] w fun r w' => r = .returned (.bool true) ∧ Below w.heap.size w w' := by
  have h1' : ¬ (1024 : Int) < len := by omega
  have h2' : ¬ (1024 : Int) < lenc := by omega
  obtain ⟨i25, hi25, hz25, hs25, hb25⟩ := info_parts info25
  have HN := hid hN
  have HC := hid hC
  clear hN hC
  go_enter Yba.func3, Yba.ntmps3
  go_wp2_with (at_make; refine wpList_make_full _ rfl (.tmp 50) (.tmp 50) 23 rfl w.heap.size 25 i25 (.agg #[E0, E0, E0, E0, .int .i64 0]) 5 Yba.underlying23 hi25 hz25 hs25 .i64 .i64 lenc lenc lenc rfl rfl rfl rfl ?b1 ?m1 (Nat.le_refl _) ?_)
  case b1 => omega
  case m1 => unfold maxLen; omega
  intro w1 own1 gr1
  have F0 := hid (Fill.start (f := colF cols) own1)
  have B0 := hid ((Below.refl w.heap.size w).grown gr1 (Nat.le_refl _) (fun k hk => by cases hk))
  have S0 : Hid (w.heap.size < w1.heap.size) := (own1.lt w.heap.size rfl).2
  clear own1 gr1
  go_wp2_with fail
  go_loopw [54] (fun i wr => ∃ k : Nat, k ≤ lenc ∧ i = .int .i64 k ∧ Hid (Fill w.heap.size 25 5 w.heap.size lenc (colF cols) k wr) ∧ Hid (Below w.heap.size w wr)) (fun i _ => lenc - (intOf i).toNat)
  case atStart => exact ⟨0, Nat.zero_le _, rfl, F0, B0⟩
  case round =>
    obtain ⟨k, hk, rfl, hF, hB⟩ := hrel
    by_cases hlt : k < lenc
    · have hx := HC.out.idx k hlt
      have hc : wr.cell? (adC k) = some (.string (cols.getD k ⟨#[]⟩)) := (hB.out.cell (HC.out.lt hlt)).trans (HC.out.cell k hlt)
      obtain ⟨⟨v0, q0⟩, f0⟩ := hF.out.there hlt (i := 0) (by omega)
      obtain ⟨⟨v1, q1⟩, f1⟩ := hF.out.there hlt (i := 1) (by omega)
      obtain ⟨⟨v2, q2⟩, f2⟩ := hF.out.there hlt (i := 2) (by omega)
      obtain ⟨⟨v3, q3⟩, f3⟩ := hF.out.there hlt (i := 3) (by omega)
      obtain ⟨⟨v4, q4⟩, f4⟩ := hF.out.there hlt (i := 4) (by omega)
      rw [Nat.add_zero] at q0 f0
      obtain ⟨s, hs⟩ : ∃ s, s = cols.getD k ⟨#[]⟩ := ⟨_, rfl⟩
      rw [← hs] at hc
      have HS := hid hs
      clear hs
      go_wp2
      go_roundw
      case rel => exact ⟨k + 1, by omega, by go_num, hid (fill5 hF.out hlt HS.out), hid (((((hB.out.setCell (Nat.le_refl _) _).setCell (Nat.le_refl _) _).setCell (Nat.le_refl _) _).setCell (Nat.le_refl _) _).setCell (Nat.le_refl _) _)⟩
      case measure => simp [intOf]; omega
    · obtain rfl : k = lenc := by omega
      have OC := hid (hF.out.done (fun _ => rfl) (by omega))
      obtain ⟨i37, hi37, hz37, hs37, hb37⟩ := info_parts info37
      have hmf : ∀ (fn : Fn) (first cap : Array Value) (w : World), (Instr.makeFunc fn first cap).run Yba.prog w = .ok (.func fn first cap) w := fun _ _ _ _ => rfl
      clear hF F0 B0 S0
      go_wp2_with (at_make; (refine wpList_make_full _ rfl (.tmp 71) (.tmp 71) 47 rfl w.heap.size 37 i37 (.agg #[E0, E0, E0, E0, E0, E0, E0, .map none, .map none, .map none, .int .u64 0, .int .i64 0, .pointer none]) 13 Yba.underlying47 hi37 hz37 hs37 .i64 .i64 len len len rfl rfl rfl rfl ?b2 ?m2 ?s2 ?_))
      case b2 => rw [hb37]; omega
      case m2 => unfold maxLen; omega
      case s2 => have := hB.out.size; simp; omega
      intro w2 own2 gr2
      obtain ⟨BA, lt1, lt2⟩ := base_start OC.out hB.out gr2
      obtain ⟨bs, hbs⟩ : ∃ bs, bs = wr.heap.size := ⟨_, rfl⟩
      rw [← hbs] at own2 gr2 BA lt1 lt2 ⊢
      obtain ⟨go, hgo⟩ : ∃ go, go = bs + 1 + 1 + 1 + 1 := ⟨_, rfl⟩
      rw [← hgo] at own2 ⊢
      have F2 := hid (Fill.start (f := objF names) own2)
      have HGO := hid hgo
      have BB := hid BA
      have GR := hid (show True from trivial)
      clear own2 gr2 BA hbs OC hB wr hgo
      go_wp2_with fail
      go_loopw [75] (fun i wr => ∃ k : Nat, k ≤ len ∧ i = .int .i64 k ∧ Hid (Fill w.heap.size 37 13 go len (objF names) k wr) ∧ Hid (Kept (fun b => b ≠ go) w2 wr)) (fun i _ => len - (intOf i).toNat)
      case atStart => exact ⟨0, Nat.zero_le _, rfl, F2, hid (Kept.refl _ _)⟩
      case round =>
        obtain ⟨j, hj, rfl, hF, hK⟩ := hrel
        by_cases hlt : j < len
        · have hx := HN.out.idx j hlt
          have hbel := hK.out.below BB.out.below (by have := BB.out.size; omega) (fun y hy => by have := HGO.out; omega)
          have hc : wr.cell? (adN j) = some (.string (names.getD j ⟨#[]⟩)) := (hbel.cell (HN.out.lt hlt)).trans (HN.out.cell j hlt)
          obtain ⟨⟨v0, q0⟩, f0⟩ := hF.out.there hlt (i := 0) (by omega)
          obtain ⟨⟨v1, q1⟩, f1⟩ := hF.out.there hlt (i := 1) (by omega)
          obtain ⟨⟨v2, q2⟩, f2⟩ := hF.out.there hlt (i := 2) (by omega)
          obtain ⟨⟨v3, q3⟩, f3⟩ := hF.out.there hlt (i := 3) (by omega)
          obtain ⟨⟨v4, q4⟩, f4⟩ := hF.out.there hlt (i := 4) (by omega)
          obtain ⟨⟨v5, q5⟩, f5⟩ := hF.out.there hlt (i := 5) (by omega)
          obtain ⟨⟨v6, q6⟩, f6⟩ := hF.out.there hlt (i := 6) (by omega)
          obtain ⟨⟨v7, q7⟩, f7⟩ := hF.out.there hlt (i := 7) (by omega)
          obtain ⟨⟨v8, q8⟩, f8⟩ := hF.out.there hlt (i := 8) (by omega)
          obtain ⟨⟨v9, q9⟩, f9⟩ := hF.out.there hlt (i := 9) (by omega)
          obtain ⟨⟨v10, q10⟩, f10⟩ := hF.out.there hlt (i := 10) (by omega)
          obtain ⟨⟨v11, q11⟩, f11⟩ := hF.out.there hlt (i := 11) (by omega)
          obtain ⟨⟨v12, q12⟩, f12⟩ := hF.out.there hlt (i := 12) (by omega)
          rw [Nat.add_zero] at q0 f0
          obtain ⟨s, hs⟩ : ∃ s, s = names.getD j ⟨#[]⟩ := ⟨_, rfl⟩
          rw [← hs] at hc
          have HS := hid hs
          clear hs hbel
          go_wp2
          go_roundw
          case rel => exact ⟨j + 1, by omega, by go_num, hid (fill13 hF.out hlt HS.out), hid (hK.out.trans (kept_setCells (objList s) (j * 13) wr))⟩
          case measure => simp [intOf]; omega
        · obtain rfl : j = len := by omega
          have OB := hid (hF.out.done (fun _ => rfl) (by omega))
          have BC := hid (BB.out.kept hK.out (fun y hy => by have := HGO.out; omega) lt1)
          have lt3 := Nat.le_trans lt2 hK.out.size
          clear hF hK F2 BB GR
          obtain ⟨w3, rfl⟩ : ∃ w3 : World, w3 = wr := ⟨_, rfl⟩
          go_upto_block 4 with fail
          go_cut [27] (fun t wx => IncRel w3 t wx)
          case first =>
            as_aux_lemma =>
              go_wp2
              all_goals go_meet
              all_goals exact ⟨_, rfl, rfl⟩
          case rest =>
          obtain ⟨inc, rfl, rfl⟩ := hcut
          obtain ⟨w3, rfl⟩ : ∃ w3 : World, w3 = wc := ⟨_, rfl⟩
          go_upto_if 98 with fail
          go_cut [28] (fun t wx => ModeRel inc w3 t wx)
          case first =>
            as_aux_lemma =>
              go_wp2
              all_goals go_meet
              · have e1 : (inc.toList == noneL) = true := by assumption
                exact ⟨by unfold modeOf; rw [if_pos e1], rfl⟩
              · have e1 : (inc.toList == noneL) = false := by assumption
                have e2 : (inc.toList == objectL) = true := by assumption
                exact ⟨by unfold modeOf; rw [if_neg (by rw [e1]; decide), if_pos e2], rfl⟩
              · have e1 : (inc.toList == noneL) = false := by assumption
                have e2 : (inc.toList == objectL) = false := by assumption
                exact ⟨by unfold modeOf; rw [if_neg (by rw [e1]; decide), if_neg (by rw [e2]; decide)], rfl⟩
          case rest =>
          obtain ⟨rfl, rfl⟩ := hcut
          obtain ⟨w3, rfl⟩ : ∃ w3 : World, w3 = wc := ⟨_, rfl⟩
          obtain ⟨mo, hmo⟩ : ∃ mo, mo = modeOf inc := ⟨_, rfl⟩
          rw [← hmo]
          have HMO := hid hmo
          clear hmo
          go_wp2_with fail
          refine (add_any n _).mono ?_
          rintro r w4 ⟨x, e, rfl, hx0, hx1, hbl⟩
          have K4 := hid (below_kept (S := fun _ => True) hbl)
          have lw4 := hbl.size
          clear hbl
          go_wp2_with fail
          have BD := hid (BC.out.kept (K4.out.alloc (.cells #[.int .u64 x, .int .i64 e, .pointer none] 35)) (fun _ _ => trivial) lt1)
          have OD := hid (own_base ((K4.out.alloc (.cells #[.int .u64 x, .int .i64 e, .pointer none] 35)).own OB.out (fun _ _ => trivial)))
          refine (new_any (bs + 1 + 1 + 1) bs (bs + 1) (bs + 1 + 1) go j x e names tv inc rv cont w.heap.size k E0 E0 E0 E0 E0 (.slice none 0 0) (.slice none 0 0) .nilFunc .nilFunc .nilFunc (.map none) _ BD.out.res OD.out HN.out.length (by omega) BD.out.seen BD.out.times BD.out.count htv).mono ?_
          rintro r w6 ⟨vs, vt, gr, capr, c, rfl, hcol, hrow, hcells, hK⟩
          have FI := hid (fin_start BC.out lt1 lt3 K4.out HN.out.length hcol hrow hcells hK)
          have lw6 := hK.size
          clear hcol hrow hcells hK
          go_wp2_with fail
          have F7 := hid (FI.out.kept ((Kept.refl _ w6).alloc (.cells #[.string tableS, .string (preS ++ tv), .string rv, .string cont, .slice (some ⟨w.heap.size, 0, none⟩) k k, .slice (some ⟨gr, 0, none⟩) j capr] 54)))
          have T7 := hid (heap_alloc_new w6 (.cells #[.string tableS, .string (preS ++ tv), .string rv, .string cont, .slice (some ⟨w.heap.size, 0, none⟩) k k, .slice (some ⟨gr, 0, none⟩) j capr] 54))
          clear FI
          go_loopw [144] (fun i wr => ∃ q : Nat, q ≤ k ∧ i = .int .i64 q ∧ Hid (Kept (fun _ => True) (w6.alloc (.cells #[.string tableS, .string (preS ++ tv), .string rv, .string cont, .slice (some ⟨w.heap.size, 0, none⟩) k k, .slice (some ⟨gr, 0, none⟩) j capr] 54)) wr)) (fun i _ => k - (intOf i).toNat)
          case atStart => exact ⟨0, Nat.zero_le _, rfl, hid (Kept.refl _ _)⟩
          case round =>
            obtain ⟨q, hq, rfl, hK⟩ := hrel
            have FW := F7.out.kept hK.out
            have TW := hK.out.at T7.out trivial
            have t4 : wr.cell? ⟨w6.heap.size, 4, none⟩ = some (.slice (some ⟨w.heap.size, 0, none⟩) k k) := cell_of_block TW
            by_cases hlt : q < k
            · obtain ⟨s, hs⟩ : ∃ s, s = cols.getD q ⟨#[]⟩ := ⟨_, rfl⟩
              have hcc : ∀ i, i < 5 → wr.cell? ⟨w.heap.size, q * 5 + i, none⟩ = (colList s q)[i]? := fun i hi => by
                rw [hs]; exact own_cell_flat FW.cols (fun _ => rfl) hlt hi
              have c0 : wr.cell? ⟨w.heap.size, q * 5, none⟩ = some (.string s) := hcc 0 (by omega)
              have c1 : wr.cell? ⟨w.heap.size, q * 5 + 1, none⟩ = some E0 := hcc 1 (by omega)
              have c2 : wr.cell? ⟨w.heap.size, q * 5 + 2, none⟩ = some E0 := hcc 2 (by omega)
              have c3 : wr.cell? ⟨w.heap.size, q * 5 + 3, none⟩ = some E0 := hcc 3 (by omega)
              have c4 : wr.cell? ⟨w.heap.size, q * 5 + 4, none⟩ = some (.int .i64 q) := hcc 4 (by omega)
              have hq1 : (q : Int) < k := by omega
              clear hcc FW TW hs
              go_upto_region 44 with fail
              go_region
              go_wp2
              go_roundw
              case rel => exact ⟨q + 1, by omega, by go_num, hid (hK.out.drew)⟩
              case measure => simp [intOf]; omega
            · obtain rfl : q = k := by omega
              have t5 : wr.cell? ⟨w6.heap.size, 5, none⟩ = some (.slice (some ⟨gr, 0, none⟩) j capr) := cell_of_block TW
              obtain ⟨aos, cps, evs, gvs⟩ := own_form FW.seenOwn
              obtain ⟨aot, cpt, evt, gvt⟩ := own_form FW.timesOwn
              subst evs
              subst evt
              have v0 : wr.cell? ⟨bs, 0, none⟩ = some (.slice aos j cps) := cell_of_one FW.seen
              have v1 : wr.cell? ⟨bs + 1, 0, none⟩ = some (.slice aot j cpt) := cell_of_one FW.times
              have F8 := hid FW
              have T8 := hid TW
              have GS := hid gvs
              have GT := hid gvt
              have hnil : ∀ (a : Option Addr) (l c : Nat) (wz : World), (binOp .eql 52 (.slice a l c) (.slice none 0 0)).run Yba.prog wz = .ok (.bool a.isNone) wz := fun a l c wz => Lib.run_eql_slice_nil wz 52 58 a l c 0 0 Yba.underlying52
              clear FW TW gvs gvt F7 T7 hK t4
              go_wp2_with fail
              obtain ⟨w8, rfl⟩ : ∃ w8 : World, w8 = wr := ⟨_, rfl⟩
              clear t5 v0 v1 hnil
              go_loopw [183] (fun i wr => ∃ p : Nat, p ≤ j ∧ i = .int .i64 p ∧ Hid (Kept (fun _ => True) w8 wr)) (fun i _ => j - (intOf i).toNat)
              case atStart => exact ⟨0, Nat.zero_le _, rfl, hid (Kept.refl _ _)⟩
              case round =>
                obtain ⟨p, hp, rfl, hK⟩ := hrel
                by_cases hlt : p < j
                · have hx := HN.out.idx p hlt
                  have FW := F8.out.kept hK.out
                  have TW := hK.out.at T8.out trivial
                  obtain ⟨gs, rfl⟩ := GS.out (by omega)
                  obtain ⟨gt, rfl⟩ := GT.out (by omega)
                  obtain ⟨s, hs⟩ : ∃ s, s = names.getD p ⟨#[]⟩ := ⟨_, rfl⟩
                  have hc : wr.cell? (adN p) = some (.string s) := by rw [hs]; exact (FW.below.cell (HN.out.lt hlt)).trans (HN.out.cell p hlt)
                  have v0 : wr.cell? ⟨bs, 0, none⟩ = some (.slice (some ⟨gs, 0, none⟩) j cps) := cell_of_one FW.seen
                  have v1 : wr.cell? ⟨bs + 1, 0, none⟩ = some (.slice (some ⟨gt, 0, none⟩) j cpt) := cell_of_one FW.times
                  have s1 : wr.cell? ⟨gs, p, none⟩ = some (.string s) := by
                    rw [FW.seenOwn.cellAt p (by omega), List.getElem?_map, hs, List.getD_eq_getElem?_getD, List.getElem?_eq_getElem (by have := HN.out.length; omega)]
                    rfl
                  have ht3 : ∀ i, i < 3 → wr.cell? ⟨gt, p * 3 + i, none⟩ = ([.int .u64 x, .int .i64 e, .pointer none] : List Value)[i]? := fun i hi => by
                    have h := FW.timesOwn
                    rw [timeCells_flat] at h
                    exact own_cell_flat h (fun _ => rfl) hlt hi
                  have u0 : wr.cell? ⟨gt, p * 3, none⟩ = some (.int .u64 x) := ht3 0 (by omega)
                  have u1 : wr.cell? ⟨gt, p * 3 + 1, none⟩ = some (.int .i64 e) := ht3 1 (by omega)
                  have u2 : wr.cell? ⟨gt, p * 3 + 2, none⟩ = some (.pointer none) := ht3 2 (by omega)
                  have n0 : wr.cell? ⟨w4.heap.size, 0, none⟩ = some (.int .u64 x) := cell_of_block FW.now
                  have n1 : wr.cell? ⟨w4.heap.size, 1, none⟩ = some (.int .i64 e) := cell_of_block FW.now
                  have n2 : wr.cell? ⟨w4.heap.size, 2, none⟩ = some (.pointer none) := cell_of_block FW.now
                  have hp1 : (p : Int) < j := by omega
                  have HSS := hid hs
                  have later := hid (fun (a : Addr) (v : Value) (h : wr.cell? a = some v) => show ((wr.alloc (.cells #[.int .u64 x, .int .i64 e, .pointer none] 35)).alloc (.cells #[.int .u64 x, .int .i64 e, .pointer none] 35)).drew.cell? a = some v from cell?_alloc_old _ (cell?_alloc_old _ h))
                  clear ht3 FW TW hs
                  go_upto_region 54 with fail
                  go_cut [203] (fun t wx => t = .bool false ∧ Hid (Kept (fun _ => True) wr wx))
                  case first =>
                    as_aux_lemma =>
                      go_region_held3 (fun w' => w'.cell? ⟨bs, 0, none⟩ = some (.slice (some ⟨gs, 0, none⟩) j cps) ∧ w'.cell? ⟨gs, p, none⟩ = some (.string s) ∧ w'.cell? (adN p) = some (.string s) ∧ w'.cell? ⟨bs + 1, 0, none⟩ = some (.slice (some ⟨gt, 0, none⟩) j cpt) ∧
                          w'.cell? ⟨gt, p * 3, none⟩ = some (.int .u64 x) ∧ w'.cell? ⟨gt, p * 3 + 1, none⟩ = some (.int .i64 e) ∧ w'.cell? ⟨gt, p * 3 + 2, none⟩ = some (.pointer none) ∧ w'.cell? ⟨w4.heap.size, 0, none⟩ = some (.int .u64 x) ∧ w'.cell? ⟨w4.heap.size, 1, none⟩ = some (.int .i64 e) ∧ w'.cell? ⟨w4.heap.size, 2, none⟩ = some (.pointer none))
                        (first | (simp [go_sem, *]; done) | exact ⟨later.out _ _ v0, later.out _ _ s1, later.out _ _ hc, later.out _ _ v1, later.out _ _ u0, later.out _ _ u1, later.out _ _ u2, later.out _ _ n0, later.out _ _ n1, later.out _ _ n2⟩)
                        ((go_at_call 7; refine (equal_same x e hx0 hx1 _).mono ?_; rintro r w' ⟨rfl, rfl⟩))
                      go_wp2_with fail
                      go_meet
                      exact ⟨rfl, hid (((Kept.refl _ wr).alloc _).alloc _).drew⟩
                  case rest =>
                  obtain ⟨rfl, hKc⟩ := hcut
                  have FW := F8.out.kept (hK.out.trans hKc.out)
                  have TW := (hK.out.trans hKc.out).at T8.out trivial
                  have hc' : wc.cell? (adN p) = some (.string s) := by rw [HSS.out]; exact (FW.below.cell (HN.out.lt hlt)).trans (HN.out.cell p hlt)
                  have t5 : wc.cell? ⟨w6.heap.size, 5, none⟩ = some (.slice (some ⟨gr, 0, none⟩) j capr) := cell_of_block TW
                  have hr2 : ∀ i, i < 2 → wc.cell? ⟨gr, p * 2 + i, none⟩ = ([.slice (some ⟨c p, 0, none⟩) 1 1, ovOf inc tv s] : List Value)[i]? := fun i hi => by
                    rw [HSS.out]; exact own_cell_flat FW.rows (fun _ => rfl) hlt hi
                  have r0 : wc.cell? ⟨gr, p * 2, none⟩ = some (.slice (some ⟨c p, 0, none⟩) 1 1) := hr2 0 (by omega)
                  have r1 : wc.cell? ⟨gr, p * 2 + 1, none⟩ = some (ovOf inc tv s) := hr2 1 (by omega)
                  have cc : wc.cell? ⟨c p, 0, none⟩ = some (.iface 3 (.int .i64 p)) := cell_of_block (FW.cells p hlt)
                  have lN : (adN p).block < wc.heap.size := World.block_lt_of_cell? wc _ hc'
                  have lC : c p < wc.heap.size := lt_of_block (FW.cells p hlt)
                  clear hr2 FW TW later hc v0 v1 s1 u0 u1 u2 n0 n1 n2
                  have a3 := ta3
                  have a37 := ta37
                  have a62 := ta62
                  by_cases e1 : (inc.toList == noneL) = true
                  · have eo : ovOf inc tv s = .nilIface := by unfold ovOf; rw [if_pos e1]
                    have em : mo = 0 := by rw [HMO.out]; unfold modeOf; rw [if_pos e1]
                    rw [eo] at r1
                    subst em
                    clear eo e1
                    as_aux_lemma =>
                      go_wp2
                      go_roundw
                      case rel => exact ⟨p + 1, by omega, by go_num, hid ((hK.out.trans hKc.out).alloc _)⟩
                      case measure => simp [intOf]; omega
                  by_cases e2 : (inc.toList == objectL) = true
                  · have eo : ovOf inc tv s = .iface 37 (objAgg s) := by unfold ovOf; rw [if_neg e1, if_pos e2]
                    have em : mo = 1 := by rw [HMO.out]; unfold modeOf; rw [if_neg e1, if_pos e2]
                    rw [eo] at r1
                    subst em
                    clear eo e1 e2
                    have lN1 : (adN p).block < wc.heap.size + 1 := by omega
                    have lN2 : (adN p).block < wc.heap.size + 1 + 1 := by omega
                    as_aux_lemma =>
                      go_wp2
                      go_quiet (fail)
                      go_wp2
                      go_roundw
                      case rel => exact ⟨p + 1, by omega, by go_num, hid (((hK.out.trans hKc.out).alloc _).alloc _).drewN⟩
                      case measure => simp [intOf]; omega
                  · have eo : ovOf inc tv s = .iface 62 (partAgg (preS ++ tv) s) := by unfold ovOf; rw [if_neg e1, if_neg e2]
                    have em : mo = 2 := by rw [HMO.out]; unfold modeOf; rw [if_neg e1, if_neg e2]
                    rw [eo] at r1
                    subst em
                    clear eo e1 e2
                    have lN1 : (adN p).block < wc.heap.size + 1 := by omega
                    have lN2 : (adN p).block < wc.heap.size + 1 + 1 := by omega
                    as_aux_lemma =>
                      go_wp2
                      go_quiet (fail)
                      go_wp2
                      go_roundw
                      case rel => exact ⟨p + 1, by omega, by go_num, hid (((hK.out.trans hKc.out).alloc _).alloc _).drewN⟩
                      case measure => simp [intOf]; omega
                · obtain rfl : p = j := by omega
                  have FW := F8.out.kept hK.out
                  have BF := hid FW.below
                  clear FW
                  go_wp2
                  go_ret
                  exact ⟨rfl, BF.out⟩
end Go.Proofs.Ybulkkjs
