/- Memory: slices of bytes; zzCloneBytes (8), resize (17), writeAt (18) -/
import Derived.Test.Qxb6000548aModsRows
import Derived.WalkKit
import Derived.ProofKit
import Derived.Below
import Derived.WalkSpells
import Derived.WalkSmall
import Derived.Deep.QuietTactic
import Derived.BigQuiet
import Derived.Deep.OwnRows
import Derived.Laws.OwnMore
import Derived.Laws.CopyOwn
import Derived.Lib.SliceRun
import Derived.Lib.AppendZerosOnto
namespace Go.Proofs.Qxb6000548aMods
open Go.ChangeShapes Go.WideShapes Go.ChangeAt Go.RowKit

theorem hide0 {p : Prop} (h : p) : Hid p := h
theorem below_on {w w1 w2 : World} (h : Below w.heap.size w w1) (k : Below w1.heap.size w1 w2) : Below w.heap.size w w2 := h.trans (k.mono h.size)
theorem lt_of_heap {w : World} {g : Nat} {o : Obj} (h : w.heap[g]? = some o) : g < w.heap.size := by
  rcases Nat.lt_or_ge g w.heap.size with h' | h'
  · exact h'
  · rw [Array.getElem?_eq_none h'] at h; cases h

/-- the slice at 'a' of n elements reads as the bytes Z 0 .. Z (n - 1) -/
structure Bts (w : World) (a : Option Addr) (n : Nat) (Z : Nat → Int) : Prop where
  cells : 0 < n → ∃ b off, a = some ⟨b, off, none⟩ ∧ ∀ j, j < n → w.cell? ⟨b, off + j, none⟩ = some (.int .u8 (Z j))

theorem Bts.below {w w' : World} {a : Option Addr} {n : Nat} {Z : Nat → Int} (h : Bts w a n Z) (hb : Below w.heap.size w w') : Bts w' a n Z where
  cells := fun hn => by
    obtain ⟨b, off, e, hc⟩ := h.cells hn
    exact ⟨b, off, e, fun j hj => cell_later hb (hc j hj)⟩

/-- a slice of n bytes in a row of its own: block r (none: there is no row, and no byte) -/
def Own (r : Option Nat) (w : World) (a : Option Addr) (n : Nat) (Z : Nat → Int) : Prop :=
  (r = none ∧ n = 0) ∨ ∃ g, r = some g ∧ a = some ⟨g, 0, none⟩ ∧ ∃ L : List Value, w.heap[g]? = some (.cells L.toArray 5 (0, 0)) ∧ n ≤ L.length ∧ ∀ i, i < n → L[i]? = some (.int .u8 (Z i))

theorem Own.bts {r : Option Nat} {w : World} {a : Option Addr} {n : Nat} {Z : Nat → Int} (h : Own r w a n Z) : Bts w a n Z where
  cells := fun hn => by
    rcases h with ⟨_, h⟩ | ⟨g, _, e, L, h2, _, h3⟩
    · omega
    · exact ⟨g, 0, e, fun j hj => by rw [Nat.zero_add, cell_of_row w g j L.toArray 5 (0, 0) h2, List.getElem?_toArray]; exact h3 j hj⟩
theorem Own.kept {r row : Option Nat} {w w' : World} {a : Option Addr} {n : Nat} {Z : Nat → Int} (h : Own r w a n Z) (hg : w.grownBy w' row) (hr : r = none ∨ r ≠ row) : Own r w' a n Z := by
  rcases h with h | ⟨g, e0, e, L, h2, h3⟩
  · exact .inl h
  · refine .inr ⟨g, e0, e, L, ?_, h3⟩
    have hne : some g ≠ row := by
      rcases hr with hr | hr
      · rw [hr] at e0; cases e0
      · intro e1; exact hr (e0.trans e1)
    rw [hg.block g (lt_of_heap h2) hne]
    exact h2
theorem Own.below {r : Option Nat} {w w' : World} {a : Option Addr} {n : Nat} {Z : Nat → Int} (h : Own r w a n Z) (hb : Below w.heap.size w w') : Own r w' a n Z := by
  rcases h with h | ⟨g, e0, e, L, h2, h3⟩
  · exact .inl h
  · exact .inr ⟨g, e0, e, L, by rw [hb.block g (lt_of_heap h2)]; exact h2, h3⟩
theorem Own.congr {r : Option Nat} {w : World} {a : Option Addr} {n : Nat} {Z Z' : Nat → Int} (h : Own r w a n Z) (hz : ∀ i, i < n → Z' i = Z i) : Own r w a n Z' := by
  rcases h with h | ⟨g, e0, e, L, h2, h3, h4⟩
  · exact .inl h
  · exact .inr ⟨g, e0, e, L, h2, h3, fun i hi => by rw [hz i hi]; exact h4 i hi⟩
theorem Own.none {r : Option Nat} {w : World} {a : Option Addr} {n : Nat} {Z : Nat → Int} (h : Own r w a n Z) : a = none → n = 0 := by
  intro e
  rcases h with h | ⟨g, _, e1, _⟩
  · exact h.2
  · rw [e1] at e; cases e
theorem grown_of_below {w w' : World} (h : Below w.heap.size w w') (row : Option Nat) : w.grownBy w' row := ⟨h.os, h.tape, h.output, h.size, fun k hk _ => h.block k hk⟩

theorem Trym.info5 : (Trym.prog.info? 5).map (fun i => (i.zero, i.size, i.bytes)) = some (some (.int .u8 0), 1, 1) := by kernel_rfl
theorem Trym.size5 : (Trym.prog.info? 5).map (·.size) = some 1 := by kernel_rfl
theorem go_make5 (n : Nat) (hn : n ≤ 1048576) (w : World) : (Instr.makeSlice 22 (.int .i64 (n : Int)) (.int .i64 (n : Int))).run Trym.prog w = .ok (.slice (some ⟨w.heap.size, 0, none⟩) n n) (w.alloc (.cells (madeCells #[.int .u8 0] n) 5)) :=
  Go.run_make_row' 22 5 (.int .u8 0) 1 Trym.underlying22 Trym.info5 rfl .i64 .i64 n (by omega) (by omega) w

/-- the first n bytes, as cells -/
def nums (Z : Nat → Int) (n : Nat) : List Value := (List.range n).map fun j => .int .u8 (Z j)
theorem nums_length (Z : Nat → Int) (n : Nat) : (nums Z n).length = n := by simp [nums]
theorem nums_at (Z : Nat → Int) {n i : Nat} (h : i < n) : (nums Z n)[i]? = some (.int .u8 (Z i)) := by simp [nums, h]
theorem nums_get {Z : Nat → Int} {n i : Nat} {v : Value} (h : (nums Z n)[i]? = some v) : i < n ∧ v = .int .u8 (Z i) := by
  have hi : i < n := by
    rcases Nat.lt_or_ge i n with h' | h'
    · exact h'
    · rw [List.getElem?_eq_none (by rw [nums_length]; exact h')] at h; cases h
  rw [nums_at Z hi] at h
  exact ⟨hi, (Option.some.inj h).symm⟩
theorem nums_one (Z : Nat → Int) (n : Nat) : ∀ v ∈ nums Z n, v.oneCell' = true := by
  intro v hv
  simp only [nums, List.mem_map] at hv
  obtain ⟨j, _, rfl⟩ := hv
  rfl
theorem splice_all {α : Type} (L cs : List α) (h : cs.length = L.length) : splice L 0 cs = cs := by simp [splice, h]

theorem bts_news {w w' : World} {x : Addr} {n : Nat} {Z : Nat → Int} (h : Bts w (some x) n Z) (hb : Below w.heap.size w w') : ∀ j v, (nums Z n)[j]? = some v → w'.cell? (x.add j) = some v := by
  intro j v hv
  obtain ⟨hj, rfl⟩ := nums_get hv
  obtain ⟨b, off, e, hc⟩ := h.cells (by omega)
  simp only [Option.some.injEq] at e
  subst e
  rw [Go.WideShapes.add_plain]
  exact cell_later hb (hc j hj)

/-- a new slice of n bytes is handed back, nothing old has turned -/
def Copied (w : World) (n : Nat) (Z : Nat → Int) (e : Ending) (w' : World) : Prop := ∃ a' r, e = .returned (.slice a' n n) ∧ Own r w' a' n Z ∧ (∀ g, r = some g → w.heap.size ≤ g) ∧ Below w.heap.size w w'

set_option maxHeartbeats 400000 in
theorem clone_any (a : Option Addr) (n c : Nat) (Z : Nat → Int) (w : World) (hZ : Bts w a n Z) (h0 : a = none → n = 0) (hn : n ≤ 1048576) :
    Calls Trym.prog 8 #[.slice a n c] w (Copied w n Z) := by
  have q22 : ∀ (w : World) (a : Option Addr) (n c n' c' : Nat), (binOp .eql 22 (.slice a n c) (.slice none n' c')).run Trym.prog w = .ok (.bool a.isNone) w := fun w a n c n' c' => Lib.run_eql_slice_nil w 22 5 a n c n' c' Trym.underlying22
  have hmk := fun w => go_make5 n hn w
  cases a with
  | none =>
    obtain rfl := h0 rfl
    go_enter Trym.func8, Trym.ntmps8
    go_wp2
    go_ret
    exact ⟨.none, .none, rfl, .inl ⟨rfl, rfl⟩, fun _ h => (by cases h), Below.refl _ _⟩
  | some x =>
    have HZ := hide0 hZ
    clear hZ h0
    go_enter Trym.func8, Trym.ntmps8
    go_wp2_with (refine wpList_copy_splice rfl _ _ 22 22 rfl 5 Trym.underlying22 Trym.size5 _ _ _ _ _ _ rfl rfl w.heap.size 0 (madeCells #[.int .u8 0] n).toList 5 ?c1 (nums Z n) ?c2 ?c3 ?c4 (nums_one Z n) w.heap.size w ((Below.refl _ _).alloc (Nat.le_refl _) _) (Nat.le_refl _) ?_)
    case c1 => rw [Array.toArray_toList]; exact heap_alloc_new _ _
    case c2 => rw [nums_length]; simp
    case c3 =>
      intro hp
      have key := bts_news HZ.out (w' := w.alloc (.cells (madeCells #[.int .u8 0] n) 5)) ((Below.refl _ _).alloc (Nat.le_refl _) _)
      first | exact key | exact ⟨rfl, x, rfl, key⟩
    case c4 => rw [nums_length, Array.length_toList, size_madeCells]; omega
    intro w1 hh hb
    clear hmk q22
    go_wp2
    go_ret
    refine ⟨some ⟨w.heap.size, 0, none⟩, some w.heap.size, rfl, .inr ⟨w.heap.size, rfl, rfl, nums Z n, ?_, by rw [nums_length]; exact Nat.le_refl _, fun i hi => nums_at Z hi⟩, fun g h => (by cases h; exact Nat.le_refl _), hb⟩
    rw [splice_all _ _ (by rw [nums_length, Array.length_toList, size_madeCells])] at hh
    exact hh.out

/-- what resize leaves -/
def grown (Z : Nat → Int) (n : Nat) : Nat → Int := fun j => if j < n then Z j else 0

theorem first_cells {w : World} {a : Option Addr} {n c : Nat} {Z : Nat → Int} (h : Bts w a n Z) : (Builtin.firstCells 1 n (.slice a n c)).run Trym.prog w = .ok (nums Z n).toArray w := by
  cases a with
  | none =>
    have h0 : n = 0 := by
      rcases Nat.eq_zero_or_pos n with h' | h'
      · exact h'
      · obtain ⟨_, _, e, _⟩ := h.cells h'; cases e
    subst h0
    rfl
  | some x =>
    have := run_loadCells_list (P := Trym.prog) w x (nums Z n) (bts_news h (Below.refl _ _))
    rw [nums_length] at this
    simpa [Builtin.firstCells] using this

theorem cap_bound (n k : Nat) (hn : n ≤ 1048576) (hk : k ≤ 2097152) : Builtin.nextslicecap k n ≤ 281474976710656 := by
  have hg : ∀ (r c : Nat), c ≤ 4194304 * (4 ^ (4 - r)) → r ≤ 4 → Builtin.growBy k r c ≤ 4194304 * 4 ^ 4 := by
    intro r
    induction r with
    | zero => intro c hc _; simpa [Builtin.growBy] using hc
    | succ r ih =>
      intro c hc hr
      unfold Builtin.growBy
      split
      · refine Nat.le_trans hc ?_
        exact Nat.mul_le_mul_left _ (Nat.pow_le_pow_right (by omega) (by omega))
      · apply ih _ _ (by omega)
        have e : 4 - r = (4 - (r + 1)) + 1 := by omega
        rw [e, Nat.pow_succ]
        have h1 : 1 ≤ 4 ^ (4 - (r + 1)) := Nat.one_le_pow _ _ (by omega)
        generalize 4 ^ (4 - (r + 1)) = p at *
        omega
  unfold Builtin.nextslicecap
  split
  · omega
  · split
    · omega
    · have := hg 4 n (by omega) (by omega)
      omega
end Go.Proofs.Qxb6000548aMods
