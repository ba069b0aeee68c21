/- FnEntryBeforeIsTransitiveAndFindsTheLeast (4): plain facts, and the memory of the three arrays. -/
import Derived.Test.Qxb6613818aModsBefore
namespace Go.Proofs.Qxb6613818aMods
open Go.ChangeShapes Go.WideShapes Go.ChangeAt Go.RowKit

/-! ### plain facts -/
theorem bef_irr (a b : Int) : bef a b a b = false := bef_eq_ge rfl (by omega)
theorem bef_iff (a b c d : Int) : bef a b c d = true ↔ a < c ∨ a = c ∧ b < d := by
  simp [bef]
theorem bef_trans {a b c d e f : Int} (h : bef a b c d = true) (k : bef c d e f = true) : bef a b e f = true := by
  rw [bef_iff] at *; omega

/-- the three arrays: ts at block B, is at B + 1, lt at B + 2 -/
structure Mem (w : World) (T I : Nat → Int) (L : Nat → Nat → Bool) (wr : World) : Prop where
  below : Below w.heap.size w wr
  size : w.heap.size + 1 + 1 < wr.heap.size
  ts : ∀ p, p < 3 → wr.cell? ⟨w.heap.size, p, none⟩ = some (.int .u64 (T p))
  is : ∀ p, p < 3 → wr.cell? ⟨w.heap.size + 1, p, none⟩ = some (.int .u64 (I p))
  lt : ∀ p q, p < 3 → q < 3 → wr.cell? ⟨w.heap.size + 1 + 1, p * 3 + q, none⟩ = some (.bool (L p q))
  free : ∀ o, wr.frozen? ⟨w.heap.size + 1 + 1, o, none⟩ = false

/-- behind a call that makes new blocks alone -/
theorem Mem.call {w wr w1 : World} {T I : Nat → Int} {L : Nat → Nat → Bool} (h : Mem w T I L wr) (hb : Below wr.heap.size wr w1) : Mem w T I L w1 where
  below := h.below.trans (hb.mono h.below.size)
  size := Nat.lt_of_lt_of_le h.size hb.size
  ts := fun p hp => (hb.cell (p := ⟨w.heap.size, p, none⟩) (by have := h.size; show w.heap.size < _; omega)).trans (h.ts p hp)
  is := fun p hp => (hb.cell (p := ⟨w.heap.size + 1, p, none⟩) (by have := h.size; show w.heap.size + 1 < _; omega)).trans (h.is p hp)
  lt := fun p q hp hq => (hb.cell (p := ⟨w.heap.size + 1 + 1, p * 3 + q, none⟩) (by have := h.size; show w.heap.size + 1 + 1 < _; omega)).trans (h.lt p q hp hq)
  free := fun o => (hb.frozen (p := ⟨w.heap.size + 1 + 1, o, none⟩) (by have := h.size; show w.heap.size + 1 + 1 < _; omega)).trans (h.free o)

theorem Mem.drew {w wr : World} {T I : Nat → Int} {L : Nat → Nat → Bool} (h : Mem w T I L wr) : Mem w T I L wr.drew where
  below := h.below.drew
  size := h.size
  ts := h.ts
  is := h.is
  lt := h.lt
  free := h.free

/-- a store lt[i][j] = v -/
theorem Mem.store {w wr : World} {T I : Nat → Int} {L L' : Nat → Nat → Bool} (h : Mem w T I L wr) {i j : Nat} {v : Bool} (hi : i < 3) (hj : j < 3)
    (hL : ∀ p q, p < 3 → q < 3 → L' p q = if p = i ∧ q = j then v else L p q) :
    Mem w T I L' (wr.setCell ⟨w.heap.size + 1 + 1, i * 3 + j, none⟩ (.bool v)) where
  below := h.below.setCell (by show w.heap.size ≤ w.heap.size + 1 + 1; omega) _
  size := by simpa [World.setCell] using h.size
  ts := fun p hp => by rw [World.cell?_setCell_other _ _ _ _ (by simp)]; exact h.ts p hp
  is := fun p hp => by rw [World.cell?_setCell_other _ _ _ _ (by simp)]; exact h.is p hp
  lt := fun p q hp hq => by
    rw [hL p q hp hq]
    by_cases e : p = i ∧ q = j
    · obtain ⟨rfl, rfl⟩ := e
      rw [if_pos ⟨rfl, rfl⟩]
      exact World.cell?_setCell_same' _ _ _ (by rw [h.lt p q hp hq]; rfl)
    · have hne : (⟨w.heap.size + 1 + 1, i * 3 + j, none⟩ : Addr) ≠ ⟨w.heap.size + 1 + 1, p * 3 + q, none⟩ := by
        intro hh
        have := congrArg Addr.off hh
        simp only at this
        omega
      rw [if_neg e, World.cell?_setCell_other _ _ _ _ hne]
      exact h.lt p q hp hq
  free := fun o => (World.frozen?_setCell _ _ _ _).trans (h.free o)
end Go.Proofs.Qxb6613818aMods
