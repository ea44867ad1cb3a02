/-
  The closure that the law hands to newTable (function 4): it appends the object's name to 'seen', the time to 'times', hands back a slice of one cell that holds the count, and raises the count. By an AI agent.
-/
import Derived.Test.YbulkkjsParts
namespace Go.Proofs.Ybulkkjs
open Go.RowKit

/-- The empty string, as the program's zero values have it. -/
abbrev E0 : Value := .string ⟨#[]⟩
/-- An object of the law's make, its name s. -/
abbrev objAgg (s : ByteArray) : Value := .agg #[.string ⟨#[76, 101, 97, 115, 101]⟩, .string ⟨#[118, 57]⟩, .string s, E0, E0, E0, E0, .map none, .map none, .map none, .int .u64 0, .int .i64 0, .pointer none]
abbrev timeAgg (x e : Int) : Value := .agg #[.int .u64 x, .int .i64 e, .pointer none]

/-- The cells of k times. -/
def timeCells (x e : Int) : Nat → List Value
  | 0 => []
  | k + 1 => timeCells x e k ++ [.int .u64 x, .int .i64 e, .pointer none]

/-- What the closure's three captured variables hold when it has been called for 'names'. -/
structure Col (B bs bt bk : Nat) (x e : Int) (names : List ByteArray) (w : World) (vs vt : Value) : Prop where
  seen : w.heap[bs]? = some (.cells #[vs] 22 (0, 0))
  seenOwn : w.ownsRow B 9 1 vs names.length (names.map Value.string)
  times : w.heap[bt]? = some (.cells #[vt] 26 (0, 0))
  timesOwn : w.ownsRow B 35 3 vt names.length (timeCells x e names.length)
  count : w.heap[bk]? = some (.cells #[.int .i64 names.length] 3 (0, 0))

/-- One captured slice appended to and stored back: what becomes of the world. -/
theorem put_step {w wA w1 : World} {B : Nat} {e : TypeId} {size : Nat} {v v1 : Value} {n n1 : Nat} {xs xs1 : List Value} {b : Nat} {T : TypeId}
    (hb : w.heap[b]? = some (.cells #[v] T (0, 0))) (hT : e ≠ T) (own : w.ownsRow B e size v n xs) (hA : Kept (fun _ => True) w wA) (gr : wA.grownBy w1 v.ownBlock) (own1 : w1.ownsRow B e size v1 n1 xs1) :
    (w1.setCell ⟨b, 0, none⟩ v1).heap[b]? = some (.cells #[v1] T (0, 0)) ∧ (w1.setCell ⟨b, 0, none⟩ v1).ownsRow B e size v1 n1 xs1 ∧ Kept (fun x => x ≠ b ∧ some x ≠ v.ownBlock) w (w1.setCell ⟨b, 0, none⟩ v1) ∧
      w1.cell? ⟨b, 0, none⟩ = some v ∧ w1.frozen? ⟨b, 0, none⟩ = false := by
  have hl := lt_of_block hb
  have hb1 : w1.heap[b]? = some (.cells #[v] T (0, 0)) := by
    rw [gr.block b (Nat.lt_of_lt_of_le hl hA.size) (own_ne own hb hT), hA.block b hl trivial, hb]
  refine ⟨one_setCell hb1, ownsRow_setCell_other own1 (fun h => own_ne own1 hb1 hT h.symm) _, ?_, cell_of_one hb1, free_of_one hb1⟩
  have k1 : Kept (fun x => x ≠ b ∧ some x ≠ v.ownBlock) w wA := hA.mono fun _ _ _ => trivial
  have k2 := k1.grown gr (fun x _ e h => h.2 e.symm)
  exact k2.setCell (fun _ h => h.1 rfl) _

theorem heap_at1 (w : World) (a b c : Obj) : (((w.alloc a).alloc b).alloc c).heap[w.heap.size + 1]? = some b := by
  have e : (w.alloc a).heap.size = w.heap.size + 1 := by simp
  rw [Below.heap_alloc _ _ _ (by simp), ← e]
  exact heap_alloc_new _ _

theorem cell_of_block {w : World} {b o : Nat} {C : Array Value} {t : TypeId} {fr : Nat × Nat} (h : w.heap[b]? = some (.cells C t fr)) : w.cell? ⟨b, o, none⟩ = C[o]? := cell_of_row w b o C t fr h

/-- A block kept, its shape known. -/
theorem Kept.at {S : Nat → Prop} {w w' : World} (h : Kept S w w') {b : Nat} {o : Obj} (hb : w.heap[b]? = some o) (hs : S b) : w'.heap[b]? = some o := by
  rw [h.block b (lt_of_block hb) hs, hb]
theorem Kept.own {S : Nat → Prop} {w w' : World} (h : Kept S w w') {B : Nat} {e : TypeId} {size : Nat} {v : Value} {n : Nat} {xs : List Value} (ho : w.ownsRow B e size v n xs) (hs : ∀ x, v.ownBlock = some x → S x) : w'.ownsRow B e size v n xs := by
  refine ⟨ho.1, ?_⟩
  rcases ho.2 with hn | ⟨g, cap, cur, rfl, hb, hg, rest⟩
  · exact .inl hn
  · exact .inr ⟨g, cap, cur, rfl, hb, h.at hg (hs g rfl), rest⟩

theorem own_apart {w : World} {B B' : Nat} {e e' : TypeId} {size size' : Nat} {v v' : Value} {n n' : Nat} {xs xs' : List Value} (h : w.ownsRow B e size v n xs) (h' : w.ownsRow B' e' size' v' n' xs') (he : e ≠ e') {x : Nat} (hx : v.ownBlock = some x) : some x ≠ v'.ownBlock := by
  rcases h.2 with ⟨rfl, _⟩ | ⟨g, cap, cur, rfl, _, hg, _⟩
  · simp [Value.ownBlock] at hx
  · simp [Value.ownBlock] at hx
    subst hx
    exact own_ne h' hg (Ne.symm he)

/-- What the closure leaves. -/
def ClosurePost (B bs bt bk : Nat) (x e : Int) (names : List ByteArray) (s : ByteArray) (w : World) (r : Ending) (w' : World) : Prop :=
  ∃ c vs' vt', r = .returned (.slice (some ⟨c, 0, none⟩) 1 1) ∧ w.heap.size ≤ c ∧ w'.heap[c]? = some (.cells #[.iface 3 (.int .i64 names.length)] 20 (0, 0)) ∧ Col B bs bt bk x e (names ++ [s]) w' vs' vt' ∧
    Kept (fun b => b ≠ bs ∧ b ≠ bt ∧ b ≠ bk ∧ (b < B ∨ ∃ c t, w.heap[b]? = some (.cells c t (0, 0)) ∧ t ≠ 9 ∧ t ≠ 35)) w w'

theorem closure_end {B bs bt bk : Nat} {x e : Int} {names : List ByteArray} {s : ByteArray} {vs vt V1 V2 : Value} {w w2 w3 : World}
    (H2 : w.ownsRow B 9 1 vs names.length (names.map Value.string)) (H4 : w.ownsRow B 35 3 vt names.length (timeCells x e names.length))
    (P3 : Kept (fun y => y ≠ bs ∧ some y ≠ vs.ownBlock) w w2) (R3 : Kept (fun y => y ≠ bt ∧ some y ≠ vt.ownBlock) w2 (w3.setCell ⟨bt, 0, none⟩ V2)) (hc : w.heap.size ≤ w3.heap.size) (hk : bk < w3.heap.size)
    (S3 : (w3.setCell ⟨bt, 0, none⟩ V2).heap[bs]? = some (.cells #[V1] 22 (0, 0))) (OS3 : (w3.setCell ⟨bt, 0, none⟩ V2).ownsRow B 9 1 V1 (names.length + 1) (names.map Value.string ++ [.string s]))
    (R1 : (w3.setCell ⟨bt, 0, none⟩ V2).heap[bt]? = some (.cells #[V2] 26 (0, 0))) (R2 : (w3.setCell ⟨bt, 0, none⟩ V2).ownsRow B 35 3 V2 (names.length + 1) (timeCells x e names.length ++ [.int .u64 x, .int .i64 e, .pointer none]))
    (K3 : (w3.setCell ⟨bt, 0, none⟩ V2).heap[bk]? = some (.cells #[.int .i64 names.length] 3 (0, 0))) :
    ClosurePost B bs bt bk x e names s w (.returned (.slice (some ⟨w3.heap.size, 0, none⟩) 1 1)) (((w3.setCell ⟨bt, 0, none⟩ V2).setCell ⟨bk, 0, none⟩ (.int .i64 (names.length + 1))).alloc (.cells #[.iface 3 (.int .i64 names.length)] 20)) := by
  have hs : ((w3.setCell ⟨bt, 0, none⟩ V2).setCell ⟨bk, 0, none⟩ (.int .i64 ((names.length : Int) + 1))).heap.size = w3.heap.size := by simp [World.setCell]
  have KK : Kept (fun y => y ≠ bk) (w3.setCell ⟨bt, 0, none⟩ V2) (((w3.setCell ⟨bt, 0, none⟩ V2).setCell ⟨bk, 0, none⟩ (.int .i64 (names.length + 1))).alloc (.cells #[.iface 3 (.int .i64 names.length)] 20)) :=
    ((Kept.refl _ _).setCell (fun _ h => h rfl) _).alloc _
  have hl : (names ++ [s]).length = names.length + 1 := by simp
  refine ⟨w3.heap.size, V1, V2, rfl, hc, ?_, ⟨KK.at S3 (ne_of_types S3 K3 (by decide)), ?_, KK.at R1 (ne_of_types R1 K3 (by decide)), ?_, ?_⟩, ?_⟩
  · rw [← hs]; exact heap_alloc_new _ _
  · have := KK.own OS3 (fun y hy e => own_ne OS3 K3 (by decide) (by rw [hy, e]))
    rw [hl]
    simpa using this
  · have := KK.own R2 (fun y hy e => own_ne R2 K3 (by decide) (by rw [hy, e]))
    rw [hl]
    exact this
  · rw [Below.heap_alloc _ _ _ (by rw [hs]; exact hk), hl]
    exact one_setCell K3
  · have a1 : Kept (fun b => b ≠ bs ∧ b ≠ bt ∧ b ≠ bk ∧ (b < B ∨ ∃ c t, w.heap[b]? = some (.cells c t (0, 0)) ∧ t ≠ 9 ∧ t ≠ 35)) w w2 := P3.mono fun y _ h => ⟨h.1, fun e => by
      rcases h.2.2.2 with h | ⟨c, t, hc, h9, h35⟩
      · have := own_le H2 e.symm; omega
      · exact own_ne H2 hc (Ne.symm h9) e⟩
    refine ⟨KK.os.trans (R3.os.trans a1.os), KK.tape.trans (R3.tape.trans a1.tape), KK.output.trans (R3.output.trans a1.output), Nat.le_trans a1.size (Nat.le_trans R3.size KK.size), fun y hy h => ?_⟩
    have y2 : y < w2.heap.size := Nat.lt_of_lt_of_le hy a1.size
    rw [KK.block y (Nat.lt_of_lt_of_le y2 R3.size) h.2.2.1, R3.block y y2 ⟨h.2.1, fun e => ?_⟩, a1.block y hy h]
    rcases h.2.2.2 with h | ⟨c, t, hc, h9, h35⟩
    · have := own_le H4 e.symm; omega
    · exact own_ne H4 hc (Ne.symm h35) e

theorem closure_any (B bs bt bk : Nat) (x e : Int) (names : List ByteArray) (s : ByteArray) (vs vt : Value) (w : World) (hn : names.length ≤ 1024) (hB : B ≤ w.heap.size) (h : Col B bs bt bk x e names w vs vt) :
    Calls Yba.prog 4 #[objAgg s, timeAgg x e, .pointer (some ⟨bs, 0, none⟩), .pointer (some ⟨bt, 0, none⟩), .pointer (some ⟨bk, 0, none⟩)] w fun r w' => ClosurePost B bs bt bk x e names s w r w' := by
  obtain ⟨h1, h2, h3, h4, h5⟩ := h
  obtain ⟨i9, hi9, hz9, hs9, hb9⟩ := info_parts info9
  obtain ⟨i35, hi35, hz35, hs35, hb35⟩ := info_parts info35
  have l1 := lt_of_block h1
  have l3 := lt_of_block h3
  have l5 := lt_of_block h5
  have q1 := cell_of_one h1
  have q3 := cell_of_one h3
  have q5 := cell_of_one h5
  have f1 := free_of_one h1
  have f3 := free_of_one h3
  have f5 := free_of_one h5
  have H2 : Hid (w.ownsRow B 9 1 vs names.length (names.map Value.string)) := h2
  have H4 : Hid (w.ownsRow B 35 3 vt names.length (timeCells x e names.length)) := h4
  have H1 : Hid (w.heap[bs]? = some (.cells #[vs] 22 (0, 0))) := h1
  have H3 : Hid (w.heap[bt]? = some (.cells #[vt] 26 (0, 0))) := h3
  have H5 : Hid (w.heap[bk]? = some (.cells #[.int .i64 names.length] 3 (0, 0))) := h5
  clear h1 h2 h3 h4 h5
  go_enter Yba.func4, Yba.ntmps4
  go_wp2_with (at_builtin; refine wpList_append_lies _ rfl (.tmp 9) (.tmp 13) 22 rfl B 9 i9 E0 1 16 Yba.underlying22 hi9 hz9 hs9 hb9 rfl (by decide) vs names.length (names.map Value.string) rfl (((H2.out.alloc _).alloc _).alloc _) ⟨w.heap.size + 1 + 1, 0, none⟩ 1 1 [.string s] rfl rfl ?n1 ?o1 (by omega) ?m1 ?b1 ?s1 (w.heap.size + 1 + 1 + 1) ?z1 ?_)
  case n1 =>
    intro j u hu
    match j, hu with
    | 0, hu => simp at hu; subst hu; simp [Addr.add, go_sem]
  case o1 => intro u hu; simp at hu; subst hu; rfl
  case m1 => unfold maxLen; omega
  case b1 => omega
  case s1 => simp; omega
  case z1 => simp
  intro g1 cap1 w1 own1 gr1 at1 lt1
  obtain ⟨p1, p2, p3, p4, p5⟩ := put_step H1.out (by decide) H2.out ((((Kept.refl _ w).alloc _).alloc _).alloc _) gr1 own1
  have t1 := p3.at H3.out ⟨ne_of_types H3.out H1.out (by decide), own_ne H2.out H3.out (by decide)⟩
  have k1 := p3.at H5.out ⟨ne_of_types H5.out H1.out (by decide), own_ne H2.out H5.out (by decide)⟩
  have o1 := p3.own H4.out (fun y hy => ⟨fun e => own_ne H4.out H1.out (by decide) (by rw [hy, e]), own_apart H4.out H2.out (by decide) hy⟩)
  have x1 : w1.heap[w.heap.size + 1]? = some (.cells #[.int .u64 x, .int .i64 e, .pointer none] 35 (0, 0)) := by
    rw [gr1.block _ (by simp) (fun e => by have := (H2.out.lt _ e.symm).2; omega)]
    exact heap_at1 _ _ _ _
  have lw : w.heap.size + 1 + 1 + 1 ≤ w1.heap.size := by have := gr1.size; simpa using this
  have x2 : (w1.setCell ⟨bs, 0, none⟩ (.slice (some ⟨g1, 0, none⟩) (names.length + 1) cap1)).heap[w.heap.size + 1]? = some (.cells #[.int .u64 x, .int .i64 e, .pointer none] 35 (0, 0)) := by
    rw [Below.heap_setCell _ _ _ _ (by show w.heap.size + 1 ≠ bs; omega)]; exact x1
  have ct := cell_of_one t1
  have ft := free_of_one t1
  have ck := cell_of_one k1
  have fk := free_of_one k1
  have y0 : (w1.setCell ⟨bs, 0, none⟩ (.slice (some ⟨g1, 0, none⟩) (names.length + 1) cap1)).cell? ⟨w.heap.size + 1, 0, none⟩ = some (.int .u64 x) := cell_of_block x2
  have y1 : (w1.setCell ⟨bs, 0, none⟩ (.slice (some ⟨g1, 0, none⟩) (names.length + 1) cap1)).cell? ⟨w.heap.size + 1, 1, none⟩ = some (.int .i64 e) := cell_of_block x2
  have y2 : (w1.setCell ⟨bs, 0, none⟩ (.slice (some ⟨g1, 0, none⟩) (names.length + 1) cap1)).cell? ⟨w.heap.size + 1, 2, none⟩ = some (.pointer none) := cell_of_block x2
  have P1 := hid p1
  have P2 := hid p2
  have P3 := hid p3
  have T1 := hid t1
  have K1 := hid k1
  have O1 := hid o1
  clear p1 p2 p3 t1 k1 o1 x1 x2 own1 gr1 at1 lt1 q1 q3 q5 f1 f3 f5
  go_wp2_with (at_builtin; (refine wpList_append_lies _ rfl (.tmp 15) (.tmp 17) 26 rfl B 35 i35 (timeAgg 0 0) 3 24 Yba.underlying26 hi35 hz35 hs35 hb35 rfl (by decide) vt names.length (timeCells x e names.length) rfl (O1.out.alloc _) ⟨w1.heap.size, 0, none⟩ 1 1 [.int .u64 x, .int .i64 e, .pointer none] rfl rfl ?n2 ?o2 (by omega) ?m2 ?b2 ?s2 (w1.heap.size + 1) ?z2 ?_))
  case n2 =>
    intro j u hu
    match j, hu with
    | 0, hu => simp at hu; subst hu; simp [Addr.add, go_sem]
    | 1, hu => simp at hu; subst hu; simp [Addr.add, go_sem]
    | 2, hu => simp at hu; subst hu; simp [Addr.add, go_sem]
  case o2 => intro u hu; simp at hu; rcases hu with rfl | rfl | rfl <;> rfl
  case m2 => unfold maxLen; omega
  case b2 => omega
  case s2 => simp; omega
  case z2 => simp
  intro g2 cap2 w3 own2 gr2 at2 lt2
  obtain ⟨r1, r2, r3, r4, r5⟩ := put_step T1.out (by decide) O1.out ((Kept.refl _ _).alloc _) gr2 own2
  have k3 := r3.at K1.out ⟨ne_of_types K1.out T1.out (by decide), own_ne O1.out K1.out (by decide)⟩
  have s3 := r3.at P1.out ⟨ne_of_types P1.out T1.out (by decide), own_ne O1.out P1.out (by decide)⟩
  have os3 := r3.own P2.out (fun y hy => ⟨fun e => own_ne P2.out T1.out (by decide) (by rw [hy, e]), own_apart P2.out O1.out (by decide) hy⟩)
  have lw3 : w1.heap.size + 1 ≤ w3.heap.size := by have := gr2.size; simpa using this
  have lk3 : bk < w3.heap.size := by omega
  have ck3 := cell_of_one k3
  have fk3 := free_of_one k3
  have R1 := hid r1
  have R2 := hid r2
  have R3 := hid r3
  have K3 := hid k3
  have S3 := hid s3
  have OS3 := hid os3
  clear r1 r2 r3 k3 s3 os3 own2 gr2 at2 lt2 ct ft ck fk y0 y1 y2 p4 p5
  go_wp2
  go_ret
  exact closure_end H2.out H4.out P3.out R3.out (by omega) (by omega) S3.out OS3.out R1.out R2.out K3.out
end Go.Proofs.Ybulkkjs
