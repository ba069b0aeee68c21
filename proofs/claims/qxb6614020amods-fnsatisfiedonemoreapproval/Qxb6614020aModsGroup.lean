/- zzGroup (11) -/
import Derived.Test.Qxb6614020aModsFits2
import Derived.Deep.OwnRows
import Derived.Laws.OwnMore
namespace Go.Proofs.Qxb6614020aMods
open Go.ChangeShapes Go.WideShapes Go.ChangeAt Go.RowKit

/-- a row of n cells that may be written, at block g -/
structure Row (w : World) (g n : Nat) (x : Nat → Value) : Prop where
  lt : g < w.heap.size
  cell : ∀ i, i < n → w.cell? ⟨g, i, none⟩ = some (x i)
  free : ∀ i, w.frozen? ⟨g, i, none⟩ = false

theorem Row.made (w : World) (z : Value) (e : TypeId) (n : Nat) : Row (w.alloc (.cells (madeCells #[z] n) e)) w.heap.size n (fun _ => z) where
  lt := by simp
  cell := fun i hi => by
    rw [World.cell?_alloc_new, ← Array.getElem?_toList, toList_madeCells_one]
    simp [hi]
  free := fun i => by simp [go_sem]

theorem Row.below {w w' : World} {g n : Nat} {x : Nat → Value} (h : Row w g n x) (hb : Below w.heap.size w w') : Row w' g n x where
  lt := Nat.lt_of_lt_of_le h.lt hb.size
  cell := fun i hi => cell_later hb (h.cell i hi)
  free := fun i => (hb.frozen (p := ⟨g, i, none⟩) h.lt).trans (h.free i)

theorem Row.store {w : World} {g n : Nat} {x x' : Nat → Value} (h : Row w g n x) {k : Nat} (hk : k < n) {v : Value} (hx : ∀ i, i < n → x' i = if i = k then v else x i) : Row (w.setCell ⟨g, k, none⟩ v) g n x' where
  lt := by simpa [World.setCell] using h.lt
  cell := fun i hi => by
    rw [hx i hi]
    by_cases e : i = k
    · subst e
      rw [if_pos rfl]
      exact World.cell?_setCell_same' _ _ _ (by rw [h.cell i hi]; rfl)
    · have hne : (⟨g, k, none⟩ : Addr) ≠ ⟨g, i, none⟩ := by
        intro hh
        have := congrArg Addr.off hh
        simp only at this
        omega
      rw [if_neg e, World.cell?_setCell_other _ _ _ _ hne]
      exact h.cell i hi
  free := fun i => (World.frozen?_setCell _ _ _ _).trans (h.free i)

theorem Trym.info47 : (Trym.prog.info? 47).map (fun i => (i.zero, i.size, i.bytes)) = some (some (.string ByteArray.empty), 1, 16) := by kernel_rfl

theorem go_make47 (n : Nat) (hn : n ≤ 4096) (w : World) : (Instr.makeSlice 28 (.int .i64 (n : Int)) (.int .i64 (n : Int))).run Trym.prog w = .ok (.slice (some ⟨w.heap.size, 0, none⟩) n n) (w.alloc (.cells (madeCells #[.string ByteArray.empty] n) 47)) :=
  Go.run_make_row' 28 47 (.string ByteArray.empty) 16 Trym.underlying28 Trym.info47 rfl .i64 .i64 n (by omega) (by omega) w

theorem Row.far {w : World} {g n : Nat} {x : Nat → Value} (h : Row w g n x) {p : Addr} (hp : p.block ≠ g) (v : Value) : Row (w.setCell p v) g n x where
  lt := by simpa [World.setCell] using h.lt
  cell := fun i hi => by
    rw [World.cell?_setCell_other _ _ _ _ (by intro hh; exact hp (congrArg Addr.block hh))]
    exact h.cell i hi
  free := fun i => (World.frozen?_setCell _ _ _ _).trans (h.free i)

theorem Row.strs {w : World} {g n : Nat} {x : Nat → Value} {S : Nat → ByteArray} (h : Row w g n x) (hs : n ≤ 9223372036854775807) (hx : ∀ i, i < n → x i = .string (S i)) : Strs w (some ⟨g, 0, none⟩) n S where
  small := hs
  cells := fun _ _ => ⟨g, 0, rfl, fun j hj => by rw [Nat.zero_add, h.cell j hj, hx j hj]⟩

theorem fill_step {n : Nat} (V : Nat → ByteArray) (k : Nat) : ∀ i, i < n → (if i < k + 1 then Value.string (V i) else .string ByteArray.empty) = if i = k then Value.string (V k) else (if i < k then Value.string (V i) else .string ByteArray.empty) := by
  intro i _
  by_cases e : i = k
  · subst e; simp
  · rw [if_neg e]
    by_cases e1 : i < k
    · rw [if_pos e1, if_pos (by omega)]
    · rw [if_neg e1, if_neg (by omega)]

/-- the zero GroupVotes, cell by cell -/
def zero7 : Nat → Value
  | 0 => .string ⟨#[]⟩
  | 1 => .string ⟨#[]⟩
  | 2 => .string ⟨#[]⟩
  | 3 => .int .i64 0
  | _ => .slice none 0 0
theorem Row.start (w : World) (n : Nat) : Row ((w.alloc (.cells #[.string ⟨#[]⟩, .string ⟨#[]⟩, .string ⟨#[]⟩, .int .i64 0, .slice none 0 0, .slice none 0 0, .slice none 0 0] 30)).alloc (.cells (madeCells #[.string ByteArray.empty] n) 47)) w.heap.size 7 zero7 where
  lt := by simp; omega
  cell := fun i hi => by
    rcases (show i = 0 ∨ i = 1 ∨ i = 2 ∨ i = 3 ∨ i = 4 ∨ i = 5 ∨ i = 6 from by omega) with rfl | rfl | rfl | rfl | rfl | rfl | rfl <;> simp [go_sem, zero7]
  free := fun i => by simp [go_sem]

/-- what zzGroup hands back -/
def Grp (w : World) (s0 s1 s2 : ByteArray) (q : Int) (v1 v2 : Value) (n : Nat) (V : Nat → ByteArray) (e : Ending) (w' : World) : Prop :=
  ∃ g, e = .returned (.agg #[.string s0, .string s1, .string s2, .int .i64 q, v1, v2, .slice (some ⟨g, 0, none⟩) n n]) ∧ Strs w' (some ⟨g, 0, none⟩) n V ∧ Below w.heap.size w w'

set_option maxRecDepth 100000 in
set_option maxHeartbeats 1000000 in
theorem group_any (s0 s1 s2 : ByteArray) (q : Int) (b1 b2 a3 : Option Addr) (n n1 n2 c1 c2 c3 : Nat) (V : Nat → ByteArray) (w : World) (hV : Strs w a3 n V) (hn : n ≤ 4096) :
    Calls Trym.prog 11 #[.string s0, .string s1, .string s2, .int .i64 q, .slice b1 n1 c1, .slice b2 n2 c2, .slice a3 n c3] w (Grp w s0 s1 s2 q (.slice b1 n1 c1) (.slice b2 n2 c2) n V) := by
  have HV := hide0 hV
  have hmk := fun w => go_make47 n hn w
  clear hV
  go_enter Trym.func11, Trym.ntmps11
  go_wp2
  clear hmk
  go_loopw [16] (fun i wr => ∃ k : Nat, k ≤ n ∧ i = .int .i64 k ∧ Row wr (w.heap.size + 1) n (fun j => if j < k then .string (V j) else .string ByteArray.empty) ∧ Row wr w.heap.size 7 zero7 ∧ Below w.heap.size w wr) (fun i _ => n - (intOf i).toNat)
  case atStart => exact ⟨0, by omega, rfl, by simpa using Row.made (w.alloc (.cells #[.string ⟨#[]⟩, .string ⟨#[]⟩, .string ⟨#[]⟩, .int .i64 0, .slice none 0 0, .slice none 0 0, .slice none 0 0] 30)) (.string ByteArray.empty) 47 n, Row.start w n, ((Below.refl _ _).alloc (Nat.le_refl _) _).alloc (by simp) _⟩
  case round =>
    obtain ⟨k, hk, rfl, hr1, hr2, hbel⟩ := hrel
    have R1 := hide0 hr1
    have R2 := hide0 hr2
    have HB := hide0 hbel
    clear hr1 hr2 hbel
    by_cases hlt : k < n
    · obtain ⟨b, off, rfl, hc⟩ := (HV.out.below HB.out).cells k hlt
      have d1 := hc k hlt
      have d2 := R1.out.cell k hlt
      have d3 := R1.out.free k
      rw [if_neg (by omega)] at d2
      clear hc
      go_wp2
      go_roundw
      case rel => exact ⟨k + 1, by omega, by go_num, R1.out.store hlt (fill_step V k), R2.out.far (by simp) _, HB.out.setCell (by simp) _⟩
      case measure => simp [intOf]; omega
    · have d0 := R2.out.cell 0 (by omega)
      have d1 := R2.out.cell 1 (by omega)
      have d2 := R2.out.cell 2 (by omega)
      have d3 := R2.out.cell 3 (by omega)
      have d4 := R2.out.cell 4 (by omega)
      have d5 := R2.out.cell 5 (by omega)
      have d6 := R2.out.cell 6 (by omega)
      have f0 := R2.out.free 0
      have f1 := R2.out.free 1
      have f2 := R2.out.free 2
      have f3 := R2.out.free 3
      have f4 := R2.out.free 4
      have f5 := R2.out.free 5
      have f6 := R2.out.free 6
      go_wp2
      refine bodyPost_ret (v := .agg #[.string s0, .string s1, .string s2, .int .i64 q, .slice b1 n1 c1, .slice b2 n2 c2, .slice (some ⟨w.heap.size + 1, 0, none⟩) n n]) (by simp [results, Trym.results11, go_sem, d0, d1, d2, d3, d4, d5, d6]) rfl ?_
      refine ⟨w.heap.size + 1, rfl, ?_, ?_⟩
      · exact Row.strs (((((((R1.out.far (by simp) _).far (by simp) _).far (by simp) _).far (by simp) _).far (by simp) _).far (by simp) _).far (by simp) _) (by omega) (fun i hi => if_pos (by omega))
      · exact ((((((HB.out.setCell (Nat.le_refl _) _).setCell (Nat.le_refl _) _).setCell (Nat.le_refl _) _).setCell (Nat.le_refl _) _).setCell (Nat.le_refl _) _).setCell (Nat.le_refl _) _).setCell (Nat.le_refl _) _
end Go.Proofs.Qxb6614020aMods
