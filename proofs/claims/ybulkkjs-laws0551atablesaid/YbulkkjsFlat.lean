/-
  Rows of cells laid one behind the other. No Go text in sight. By an AI agent.
-/
import Derived.Test.YbulkkjsClosure
namespace Go.Proofs.Ybulkkjs
open Go.RowKit

/-- The lists f 0, f 1, .. f (n - 1), joined. -/
def flat (f : Nat → List Value) : Nat → List Value
  | 0 => []
  | k + 1 => flat f k ++ f k

theorem flat_length {f : Nat → List Value} {c : Nat} (hf : ∀ k, (f k).length = c) : ∀ n, (flat f n).length = n * c
  | 0 => by simp [flat]
  | n + 1 => by rw [flat, List.length_append, flat_length hf n, hf, Nat.succ_mul]

theorem flat_get {f : Nat → List Value} {c : Nat} (hf : ∀ k, (f k).length = c) {k j : Nat} (hj : j < c) : ∀ n, k < n → (flat f n)[k * c + j]? = (f k)[j]?
  | 0, h => by omega
  | n + 1, h => by
    have hl := flat_length hf n
    rw [flat]
    by_cases e : k = n
    · subst e
      rw [List.getElem?_append_right (by omega), hl, Nat.add_sub_cancel_left]
    · have hk : k < n := by omega
      have hm : (k + 1) * c ≤ n * c := Nat.mul_le_mul_right c hk
      rw [Nat.succ_mul] at hm
      rw [List.getElem?_append_left (by omega)]
      exact flat_get hf hj n hk

theorem flat_congr {f g : Nat → List Value} : ∀ n, (∀ k, k < n → f k = g k) → flat f n = flat g n
  | 0, _ => rfl
  | n + 1, h => by rw [flat, flat, flat_congr n (fun k hk => h k (by omega)), h n (by omega)]

theorem timeCells_flat (x e : Int) : ∀ k, timeCells x e k = flat (fun _ => [.int .u64 x, .int .i64 e, .pointer none]) k
  | 0 => rfl
  | k + 1 => by rw [timeCells, flat, timeCells_flat x e k]

/-- A cell of an owned row of such lists. -/
theorem own_cell_flat {w : World} {B : Nat} {e : TypeId} {c g n cap : Nat} {f : Nat → List Value} (h : w.ownsRow B e c (.slice (some ⟨g, 0, none⟩) n cap) n (flat f n)) (hf : ∀ k, (f k).length = c) {k j : Nat} (hk : k < n) (hj : j < c) :
    w.cell? ⟨g, k * c + j, none⟩ = (f k)[j]? := by
  have hm : (k + 1) * c ≤ n * c := Nat.mul_le_mul_right c hk
  rw [Nat.succ_mul] at hm
  rw [h.cellAt (k * c + j) (by omega), flat_get hf hj n hk]
end Go.Proofs.Ybulkkjs
