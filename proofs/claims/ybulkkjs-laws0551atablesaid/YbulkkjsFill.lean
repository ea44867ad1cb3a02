/-
  A row that a loop fills, one list of cells a round. No Go text in sight. By an AI agent.
-/
import Derived.Test.YbulkkjsFlat
namespace Go.Proofs.Ybulkkjs
open Go.RowKit

def setList : List Value → Nat → List Value → List Value
  | xs, _, [] => xs
  | xs, o, v :: r => setList (xs.set o v) (o + 1) r

theorem setList_out : ∀ (vs xs : List Value) (o i : Nat), (i < o ∨ o + vs.length ≤ i) → (setList xs o vs)[i]? = xs[i]?
  | [], _, _, _, _ => rfl
  | v :: r, xs, o, i, h => by
    rw [setList, setList_out r _ _ _ (by simp at h; omega), List.getElem?_set_ne (by simp at h; omega)]

theorem setList_in : ∀ (vs xs : List Value) (o j : Nat), j < vs.length → o + j < xs.length → (setList xs o vs)[o + j]? = vs[j]?
  | v :: r, xs, o, 0, _, hx => by
    show (setList (xs.set o v) (o + 1) r)[o]? = some v
    rw [setList_out r _ _ _ (by omega), List.getElem?_set_self (by omega)]
  | v :: r, xs, o, j + 1, hj, hx => by
    have := setList_in r (xs.set o v) (o + 1) j (by simpa using hj) (by simp; omega)
    rw [setList, show o + (j + 1) = o + 1 + j from by omega, this]
    rfl

theorem own_setCells {B : Nat} {e : TypeId} {c g n cap : Nat} : ∀ (vs xs : List Value) (o : Nat) (w : World), w.ownsRow B e c (.slice (some ⟨g, 0, none⟩) n cap) n xs →
    (w.setCells g o vs).ownsRow B e c (.slice (some ⟨g, 0, none⟩) n cap) n (setList xs o vs)
  | [], _, _, _, h => h
  | v :: r, _, o, _, h => own_setCells r _ (o + 1) _ (h.stored o v).1

theorem kept_setCells {g : Nat} : ∀ (vs : List Value) (o : Nat) (w : World), Kept (fun b => b ≠ g) w (w.setCells g o vs)
  | [], _, w => Kept.refl _ w
  | v :: r, o, w => (((Kept.refl _ w).setCell (p := ⟨g, o, none⟩) (fun _ h => h rfl) v).trans (kept_setCells r (o + 1) _))

theorem size_setCells {g : Nat} : ∀ (vs : List Value) (o : Nat) (w : World), (w.setCells g o vs).heap.size = w.heap.size
  | [], _, _ => rfl
  | v :: r, o, w => by rw [World.setCells, size_setCells r]; simp [World.setCell]

/-- A row of n lists of c cells, the first k of them laid. -/
def Fill (B : Nat) (e : TypeId) (c g n : Nat) (f : Nat → List Value) (k : Nat) (w : World) : Prop :=
  ∃ xs, w.ownsRow B e c (.slice (some ⟨g, 0, none⟩) n n) n xs ∧ ∀ j, j < k → ∀ i, i < c → xs[j * c + i]? = (f j)[i]?

section
variable {B : Nat} {e : TypeId} {c g n k : Nat} {f : Nat → List Value} {w w' : World}

theorem Fill.start {xs : List Value} (h : w.ownsRow B e c (.slice (some ⟨g, 0, none⟩) n n) n xs) : Fill B e c g n f 0 w := ⟨xs, h, fun j hj => by omega⟩

theorem Fill.kept {S : Nat → Prop} (h : Fill B e c g n f k w) (hk : Kept S w w') (hs : S g) : Fill B e c g n f k w' := by
  obtain ⟨xs, ho, hx⟩ := h
  exact ⟨xs, hk.own ho (fun y hy => by have e : y = g := by simpa [Value.ownBlock] using hy.symm
                                       rw [e]; exact hs), hx⟩

theorem Fill.there (h : Fill B e c g n f k w) (hk : k < n) {i : Nat} (hi : i < c) : (∃ v, w.cell? ⟨g, k * c + i, none⟩ = some v) ∧ w.frozen? ⟨g, k * c + i, none⟩ = false := by
  obtain ⟨xs, ho, hx⟩ := h
  have hm : (k + 1) * c ≤ n * c := Nat.mul_le_mul_right c hk
  rw [Nat.succ_mul] at hm
  refine ⟨?_, ho.frozenAt _⟩
  rw [ho.cellAt (k * c + i) (by omega)]
  have hl := ho.1
  exact ⟨xs[k * c + i]'(by omega), List.getElem?_eq_getElem _⟩

theorem Fill.step (h : Fill B e c g n f k w) (hf : (f k).length = c) (hk : k < n) : Fill B e c g n f (k + 1) (w.setCells g (k * c) (f k)) := by
  obtain ⟨xs, ho, hx⟩ := h
  have hm : (k + 1) * c ≤ n * c := Nat.mul_le_mul_right c hk
  rw [Nat.succ_mul] at hm
  have hl := ho.1
  refine ⟨_, own_setCells (f k) xs (k * c) w ho, fun j hj i hi => ?_⟩
  by_cases ej : j = k
  · subst ej
    exact setList_in _ _ _ _ (by omega) (by omega)
  · have hjk : j < k := by omega
    have hm2 : (j + 1) * c ≤ k * c := Nat.mul_le_mul_right c hjk
    rw [Nat.succ_mul] at hm2
    rw [setList_out _ _ _ _ (by omega)]
    exact hx j hjk i hi

theorem Fill.done (h : Fill B e c g n f n w) (hf : ∀ j, (f j).length = c) (hc : 0 < c) : w.ownsRow B e c (.slice (some ⟨g, 0, none⟩) n n) n (flat f n) := by
  obtain ⟨xs, ho, hx⟩ := h
  have e : xs = flat f n := by
    apply List.ext_getElem?
    intro i
    have hl := ho.1
    have hl2 := flat_length hf n
    by_cases hi : i < n * c
    · have hq : i / c < n := (Nat.div_lt_iff_lt_mul hc).2 hi
      have hr : i % c < c := Nat.mod_lt _ hc
      have ei : i = i / c * c + i % c := (Nat.div_add_mod' i c).symm
      rw [ei, hx _ hq _ hr, flat_get hf hr n hq]
    · rw [List.getElem?_eq_none (by omega), List.getElem?_eq_none (by omega)]
  rw [← e]
  exact ho
end
end Go.Proofs.Ybulkkjs
