/- Memory: rows of cells, slices of ints; zzBytes (4), zzCloneInts (5), slices.Clone (8) -/
import Derived.Test.Qxb6614157aModsRows
import Derived.WalkKit
import Derived.ProofKit
import Derived.Below
import Derived.WalkSpells
import Derived.WalkSmall
import Derived.Deep.QuietTactic
import Derived.BigQuiet
import Derived.Deep.OwnRows
import Derived.Laws.OwnMore
import Derived.Laws.CopyOwn
import Derived.Lib.SliceRun
namespace Go.Proofs.Qxb6614157aMods
open Go.ChangeShapes Go.WideShapes Go.ChangeAt Go.RowKit

theorem hide0 {p : Prop} (h : p) : Hid p := h
theorem below_on {w w1 w2 : World} (h : Below w.heap.size w w1) (k : Below w1.heap.size w1 w2) : Below w.heap.size w w2 := h.trans (k.mono h.size)

/-- a row of n cells that may be written, at block g -/
structure Row (w : World) (g n : Nat) (x : Nat → Value) : Prop where
  lt : g < w.heap.size
  cell : ∀ i, i < n → w.cell? ⟨g, i, none⟩ = some (x i)
  free : ∀ i, w.frozen? ⟨g, i, none⟩ = false

theorem Row.made (w : World) (z : Value) (e : TypeId) (n : Nat) : Row (w.alloc (.cells (madeCells #[z] n) e)) w.heap.size n (fun _ => z) where
  lt := by simp
  cell := fun i hi => by
    rw [World.cell?_alloc_new, ← Array.getElem?_toList, toList_madeCells_one]
    simp [hi]
  free := fun i => by simp [go_sem]

theorem Row.below {w w' : World} {g n : Nat} {x : Nat → Value} (h : Row w g n x) (hb : Below w.heap.size w w') : Row w' g n x where
  lt := Nat.lt_of_lt_of_le h.lt hb.size
  cell := fun i hi => cell_later hb (h.cell i hi)
  free := fun i => (hb.frozen (p := ⟨g, i, none⟩) h.lt).trans (h.free i)

theorem Row.store {w : World} {g n : Nat} {x x' : Nat → Value} (h : Row w g n x) {k : Nat} (hk : k < n) {v : Value} (hx : ∀ i, i < n → x' i = if i = k then v else x i) : Row (w.setCell ⟨g, k, none⟩ v) g n x' where
  lt := by simpa [World.setCell] using h.lt
  cell := fun i hi => by
    rw [hx i hi]
    by_cases e : i = k
    · subst e
      rw [if_pos rfl]
      exact World.cell?_setCell_same' _ _ _ (by rw [h.cell i hi]; rfl)
    · have hne : (⟨g, k, none⟩ : Addr) ≠ ⟨g, i, none⟩ := by
        intro hh
        have := congrArg Addr.off hh
        simp only at this
        omega
      rw [if_neg e, World.cell?_setCell_other _ _ _ _ hne]
      exact h.cell i hi
  free := fun i => (World.frozen?_setCell _ _ _ _).trans (h.free i)

theorem Row.far {w : World} {g n : Nat} {x : Nat → Value} (h : Row w g n x) {p : Addr} (hp : p.block ≠ g) (v : Value) : Row (w.setCell p v) g n x where
  lt := by simpa [World.setCell] using h.lt
  cell := fun i hi => by
    rw [World.cell?_setCell_other _ _ _ _ (by intro hh; exact hp (congrArg Addr.block hh))]
    exact h.cell i hi
  free := fun i => (World.frozen?_setCell _ _ _ _).trans (h.free i)

/-- the slice at 'a' of n elements reads as the numbers Z 0 .. Z (n - 1) -/
structure Ints (w : World) (a : Option Addr) (n : Nat) (Z : Nat → Int) : Prop where
  cells : 0 < n → ∃ b off, a = some ⟨b, off, none⟩ ∧ ∀ j, j < n → w.cell? ⟨b, off + j, none⟩ = some (.int .i64 (Z j))

theorem Ints.below {w w' : World} {a : Option Addr} {n : Nat} {Z : Nat → Int} (h : Ints w a n Z) (hb : Below w.heap.size w w') : Ints w' a n Z where
  cells := fun hn => by
    obtain ⟨b, off, e, hc⟩ := h.cells hn
    exact ⟨b, off, e, fun j hj => cell_later hb (hc j hj)⟩

/-- a slice of n elements in a row of its own, from block B on -/
def Own (B : Nat) (w : World) (a : Option Addr) (n : Nat) (Z : Nat → Int) : Prop := ∃ g, B ≤ g ∧ (0 < n → a = some ⟨g, 0, none⟩) ∧ (0 < n → Row w g n (fun j => .int .i64 (Z j)))

theorem Own.ints {B : Nat} {w : World} {a : Option Addr} {n : Nat} {Z : Nat → Int} (h : Own B w a n Z) : Ints w a n Z where
  cells := fun hn => by
    obtain ⟨g, _, h1, h2⟩ := h
    exact ⟨g, 0, h1 hn, fun j hj => by rw [Nat.zero_add]; exact (h2 hn).cell j hj⟩

theorem Trym.info3 : (Trym.prog.info? 3).map (fun i => (i.zero, i.size, i.bytes)) = some (some (.int .i64 0), 1, 8) := by kernel_rfl
theorem go_make3 (n : Nat) (hn : n ≤ 131072) (w : World) : (Instr.makeSlice 22 (.int .i64 (n : Int)) (.int .i64 (n : Int))).run Trym.prog w = .ok (.slice (some ⟨w.heap.size, 0, none⟩) n n) (w.alloc (.cells (madeCells #[.int .i64 0] n) 3)) :=
  Go.run_make_row' 22 3 (.int .i64 0) 8 Trym.underlying22 Trym.info3 rfl .i64 .i64 n (by omega) (by omega) w

theorem Trym.size3 : (Trym.prog.info? 3).map (·.size) = some 1 := by kernel_rfl

/-- the first n numbers, as cells -/
def nums (Z : Nat → Int) (n : Nat) : List Value := (List.range n).map fun j => .int .i64 (Z j)
theorem nums_length (Z : Nat → Int) (n : Nat) : (nums Z n).length = n := by simp [nums]
theorem nums_at (Z : Nat → Int) {n i : Nat} (h : i < n) : (nums Z n)[i]? = some (.int .i64 (Z i)) := by simp [nums, h]
theorem nums_get {Z : Nat → Int} {n i : Nat} {v : Value} (h : (nums Z n)[i]? = some v) : i < n ∧ v = .int .i64 (Z i) := by
  have hi : i < n := by
    rcases Nat.lt_or_ge i n with h' | h'
    · exact h'
    · rw [List.getElem?_eq_none (by rw [nums_length]; exact h')] at h; cases h
  rw [nums_at Z hi] at h
  exact ⟨hi, (Option.some.inj h).symm⟩
theorem nums_one (Z : Nat → Int) (n : Nat) : ∀ v ∈ nums Z n, v.oneCell' = true := by
  intro v hv
  simp only [nums, List.mem_map] at hv
  obtain ⟨j, _, rfl⟩ := hv
  rfl
theorem splice_all {α : Type} (L cs : List α) (h : cs.length = L.length) : splice L 0 cs = cs := by simp [splice, h]

theorem Row.of_heap {w : World} {g n : Nat} {e : TypeId} {L : List Value} {x : Nat → Value} (h : w.heap[g]? = some (.cells L.toArray e (0, 0))) (hx : ∀ i, i < n → L[i]? = some (x i)) : Row w g n x where
  lt := by
    rcases Nat.lt_or_ge g w.heap.size with h' | h'
    · exact h'
    · rw [Array.getElem?_eq_none h'] at h; cases h
  cell := fun i hi => by rw [cell_of_row w g i L.toArray e (0, 0) h, List.getElem?_toArray]; exact hx i hi
  free := fun i => frozen_of_row w g i L.toArray e h

/-- a new slice of n ints is handed back, nothing old has turned -/
def Copied (w : World) (n : Nat) (Z : Nat → Int) (e : Ending) (w' : World) : Prop := ∃ a' cp, e = .returned (.slice a' n cp) ∧ Own w.heap.size w' a' n Z ∧ Below w.heap.size w w'

theorem bytes_any (a : Option Addr) (n c : Nat) (w : World) (hn : n ≤ 131072) :
    Calls Trym.prog 4 #[.slice a n c] w fun e w' => e = .returned (.bool true) ∧ w' = w := by
  go_enter Trym.func4, Trym.ntmps4
  go_wp2
  go_ret
  exact ⟨rfl, rfl⟩

theorem ints_news {w w' : World} {x : Addr} {n : Nat} {Z : Nat → Int} (h : Ints w (some x) n Z) (hb : Below w.heap.size w w') : ∀ j v, (nums Z n)[j]? = some v → w'.cell? (x.add j) = some v := by
  intro j v hv
  obtain ⟨hj, rfl⟩ := nums_get hv
  obtain ⟨b, off, e, hc⟩ := h.cells (by omega)
  simp only [Option.some.injEq] at e
  subst e
  rw [Go.WideShapes.add_plain]
  exact cell_later hb (hc j hj)

set_option maxHeartbeats 400000 in
theorem clone_any (a : Option Addr) (n c : Nat) (Z : Nat → Int) (w : World) (hZ : Ints w a n Z) (h0 : a = none → n = 0) (hn : n ≤ 131072) :
    Calls Trym.prog 5 #[.slice a n c] w (Copied w n Z) := by
  have q22 : ∀ (w : World) (a : Option Addr) (n c n' c' : Nat), (binOp .eql 22 (.slice a n c) (.slice none n' c')).run Trym.prog w = .ok (.bool a.isNone) w := fun w a n c n' c' => Lib.run_eql_slice_nil w 22 3 a n c n' c' Trym.underlying22
  have hmk := fun w => go_make3 n hn w
  cases a with
  | none =>
    obtain rfl := h0 rfl
    go_enter Trym.func5, Trym.ntmps5
    go_wp2
    go_ret
    exact ⟨none, 0, rfl, ⟨w.heap.size, Nat.le_refl _, fun h => absurd h (by omega), fun h => absurd h (by omega)⟩, Below.refl _ _⟩
  | some x =>
    have HZ := hide0 hZ
    clear hZ h0
    go_enter Trym.func5, Trym.ntmps5
    go_wp2_with (refine wpList_copy_splice rfl _ _ 22 22 rfl 3 Trym.underlying22 Trym.size3 _ _ _ _ _ _ rfl rfl w.heap.size 0 (madeCells #[.int .i64 0] n).toList 3 ?c1 (nums Z n) ?c2 ?c3 ?c4 (nums_one Z n) w.heap.size w ((Below.refl _ _).alloc (Nat.le_refl _) _) (Nat.le_refl _) ?_)
    case c1 => rw [Array.toArray_toList]; exact heap_alloc_new _ _
    case c2 => rw [nums_length]; simp
    case c3 =>
      intro hp
      have key := ints_news HZ.out (w' := w.alloc (.cells (madeCells #[.int .i64 0] n) 3)) ((Below.refl _ _).alloc (Nat.le_refl _) _)
      first | exact key | exact ⟨rfl, x, rfl, key⟩
    case c4 => rw [nums_length, Array.length_toList, size_madeCells]; omega
    intro w1 hh hb
    clear hmk q22
    go_wp2
    go_ret
    refine ⟨some ⟨w.heap.size, 0, none⟩, n, rfl, ⟨w.heap.size, Nat.le_refl _, fun _ => rfl, fun _ => Row.of_heap hh.out ?_⟩, hb⟩
    intro i hi
    rw [splice_all _ _ (by rw [nums_length, Array.length_toList, size_madeCells])]
    exact nums_at Z hi

theorem own_empty (w : World) (e : TypeId) : (w.alloc (.cells #[] e)).ownsRow w.heap.size e 1 (.slice (some ⟨w.heap.size, 0, none⟩) 0 0) 0 [] :=
  ⟨rfl, .inr ⟨w.heap.size, 0, #[], rfl, Nat.le_refl _, heap_alloc_new _ _, Nat.le_refl _, by unfold maxLen; omega, rfl, rfl⟩⟩

theorem own_of {w : World} {B n : Nat} {v : Value} {Z : Nat → Int} (h : w.ownsRow B 3 1 v n (nums Z n)) : ∃ a cp, v = .slice a n cp ∧ Own B w a n Z := by
  rcases h.2 with ⟨h1, h2⟩ | ⟨g, cap, cur, h1, h2, h3, _⟩
  · exact ⟨none, 0, by rw [h1, h2], B, Nat.le_refl _, fun h => absurd h (by omega), fun h => absurd h (by omega)⟩
  · refine ⟨_, _, h1, g, h2, fun _ => rfl, fun _ => ⟨?_, ?_, ?_⟩⟩
    · rcases Nat.lt_or_ge g w.heap.size with h' | h'
      · exact h'
      · rw [Array.getElem?_eq_none h'] at h3; cases h3
    · intro i hi
      subst h1
      rw [h.cellAt i (by omega)]
      exact nums_at Z hi
    · intro i
      subst h1
      exact h.frozenAt i

set_option maxHeartbeats 400000 in
theorem sclone_any (a : Option Addr) (n c : Nat) (Z : Nat → Int) (w : World) (hZ : Ints w a n Z) (h0 : a = none → n = 0) (hn : n ≤ 131072) :
    Calls Trym.prog 8 #[.slice a n c] w (Copied w n Z) := by
  have q22 : ∀ (w : World) (a : Option Addr) (n c n' c' : Nat), (binOp .eql 22 (.slice a n c) (.slice none n' c')).run Trym.prog w = .ok (.bool a.isNone) w := fun w a n c n' c' => Lib.run_eql_slice_nil w 22 3 a n c n' c' Trym.underlying22
  obtain ⟨i0, hi, hz0, hz1, hz2⟩ := info_parts Trym.info3
  cases a with
  | none =>
    obtain rfl := h0 rfl
    go_enter Trym.func8, Trym.ntmps8
    go_wp2
    go_ret
    exact ⟨none, 0, rfl, ⟨w.heap.size, Nat.le_refl _, fun h => absurd h (by omega), fun h => absurd h (by omega)⟩, Below.refl _ _⟩
  | some x =>
    have HZ := hide0 hZ
    clear hZ h0
    go_enter Trym.func8, Trym.ntmps8
    go_wp2_with (at_builtin; refine wpList_append_own _ rfl _ _ 22 rfl w.heap.size 3 i0 (.int .i64 0) 1 8 Trym.underlying22 hi hz0 hz1 hz2 rfl (by decide) (.slice (some ⟨w.heap.size, 0, none⟩) 0 0) 0 [] rfl (own_empty w 3) x n c (nums Z n) rfl (by rw [nums_length]; omega) (ints_news HZ.out ((Below.refl _ _).alloc (Nat.le_refl _) _)) (nums_one Z n) ?c3 ?c4 ?c5 ?_)
    case c3 => unfold maxLen; omega
    case c4 => omega
    case c5 => simp
    intro v' w1 hown hgrow _
    have hb : Below w.heap.size w w1 := ((Below.refl _ _).alloc (Nat.le_refl _) _).grown hgrow (by simp) (by intro k hk; simp [Value.ownBlock] at hk; omega)
    obtain ⟨a', cp, hv, ho⟩ := own_of hown
    subst hv
    clear hown hgrow q22
    go_wp2
    go_ret
    exact ⟨a', cp, rfl, ho, hb⟩
end Go.Proofs.Qxb6614157aMods
