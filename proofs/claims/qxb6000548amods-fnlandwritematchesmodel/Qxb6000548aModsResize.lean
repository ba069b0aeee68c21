/- resize (17), writeAt (18) -/
import Derived.Test.Qxb6000548aModsBase
import Derived.Maps.RangeWalk
namespace Go.Proofs.Qxb6000548aMods
open Go.ChangeShapes Go.WideShapes Go.ChangeAt Go.RowKit

/-- a slice of s bytes in a row of its own is handed back, the old row or a new one; of what was there the row 'row' alone may have turned -/
def Handed (r row : Option Nat) (w : World) (s : Nat) (Z : Nat → Int) (e : Ending) (w' : World) : Prop :=
  ∃ a' cp r', e = .returned (.slice a' s cp) ∧ s ≤ cp ∧ Own r' w' a' s Z ∧ (r' = r ∨ r' = none ∨ ∃ g, r' = some g ∧ w.heap.size ≤ g) ∧ w.grownBy w' row

theorem zeros_at (k i : Nat) (h : i < k) : (Builtin.zeroCells (Value.int .u8 0).cells k).toList[i]? = some (.int .u8 0) := by
  show (madeCells #[.int .u8 0] (k * 1)).toList[i]? = _
  rw [Nat.mul_one, toList_madeCells_one, List.getElem?_replicate, if_pos h]

/-- append(b, make([]byte, s - n)...), b full -/
theorem append_zeros (a : Option Addr) (n s ty : Nat) (Z : Nat → Int) (w : World) (hZ : Bts w a n Z) (hn : n ≤ 1048576) (hns : n < s) (hs : s ≤ 2097152) :
    ∃ cp w1, (Builtin.append_ #[22, 2] ty #[.slice a n n, .int .i64 ((s : Int) - (n : Int))]).run Trym.prog w = .ok (.slice (some ⟨w.heap.size, 0, none⟩) s cp) w1 ∧ s ≤ cp ∧ Own (some w.heap.size) w1 (some ⟨w.heap.size, 0, none⟩) s (grown Z n) ∧ Below w.heap.size w w1 := by
  obtain ⟨i0, hi, hz0, hz1, hz2⟩ := info_parts Trym.info5
  have e1 : (s : Int) - (n : Int) = ((s - n : Nat) : Int) := by omega
  have e2 : n + (s - n) = s := by omega
  have hr := Lib.run_append_grow_zeros (P := Trym.prog) w 22 2 ty 5 i0 (.int .u8 0) .i64 .i64 Trym.underlying22 Trym.underlying2 hi hz0 a n n (nums Z n) (by rw [hz1]; exact first_cells (hZ.below ((Below.refl _ _).drew))) (s - n) (by omega) (by omega) (by omega) (by omega) (by rw [hz2]; omega)
    (by rw [hz2, e2]; have := cap_bound n s hn hs; omega)
  rw [e2] at hr
  rw [e1, hr]
  have hc := grownCap_ge w s n 5
  refine ⟨_, _, rfl, hc, .inr ⟨w.heap.size, rfl, rfl, (nums Z n ++ (Builtin.zeroCells (Value.int .u8 0).cells (s - n)).toList) ++ (Builtin.zeroCells (Value.int .u8 0).cells (grownCap w s n 5 - s)).toList, ?_, ?_, ?_⟩, ?_⟩
  · rw [show w.heap.size = w.drew.heap.size from rfl, heap_alloc_new]
    congr 2
    simp
  · simp only [List.length_append, nums_length, Array.length_toList, size_zeroCells]
    have e : (Value.int .u8 0).cells = #[.int .u8 0] := rfl
    rw [e]
    simp
    omega
  · intro i hi'
    unfold grown
    by_cases h : i < n
    · rw [if_pos h, List.append_assoc, List.getElem?_append_left (by rw [nums_length]; exact h)]
      exact nums_at Z h
    · have hl : (nums Z n ++ (Builtin.zeroCells (Value.int .u8 0).cells (s - n)).toList).length = s := by
        simp only [List.length_append, nums_length, Array.length_toList, size_zeroCells]
        have e : (Value.int .u8 0).cells = #[.int .u8 0] := rfl
        rw [e]
        simp
        omega
      rw [if_neg h, List.getElem?_append_left (by rw [hl]; exact hi'), List.getElem?_append_right (by rw [nums_length]; omega), nums_length]
      exact zeros_at _ _ (by omega)
  · exact ((Below.refl _ _).drew).alloc (Nat.le_refl _) _

set_option maxHeartbeats 400000 in
theorem resize_any (r : Option Nat) (a : Option Addr) (n s : Nat) (Z : Nat → Int) (w : World) (hO : Own r w a n Z) (hn : n ≤ 1048576) (hs : s ≤ 2097152) :
    Calls Trym.prog 17 #[.slice a n n, .int .i64 (s : Int)] w (Handed r none w s (grown Z n)) := by
  have HO := hide0 hO
  clear hO
  by_cases h : s ≤ n
  · go_enter Trym.func17, Trym.ntmps17
    go_wp2
    go_ret
    refine ⟨_, _, r, rfl, h, ?_, .inl rfl, World.grownBy.refl _ _⟩
    rcases HO.out with ⟨e0, h0⟩ | ⟨g, e0, e, L, h2, h3, h4⟩
    · exact .inl ⟨e0, by omega⟩
    · exact .inr ⟨g, e0, e, L, h2, by omega, fun i hi => by rw [show grown Z n i = Z i from if_pos (by omega)]; exact h4 i (by omega)⟩
  · obtain ⟨cp, w1, hr, hcp, ho, hb⟩ := append_zeros a n s 22 Z w HO.out.bts hn (by omega) hs
    have HRR := hide0 hr
    clear hr
    go_enter Trym.func17, Trym.ntmps17
    go_wp2_with (at_builtin; refine Lib.wpList_append_run _ rfl _ _ _ _ rfl _ _ rfl rfl _ _ HRR.out ?_)
    go_ret
    exact ⟨_, _, _, rfl, hcp, ho, .inr (.inr ⟨_, rfl, Nat.le_refl _⟩), grown_of_below hb _⟩

/-- what a write of m bytes P at off leaves of n bytes Z -/
def written (Z P : Nat → Int) (n off m : Nat) : Nat → Int := fun j => if off ≤ j ∧ j < off + m then P (j - off) else grown Z n j

theorem splice_at {L : List Value} {Z P : Nat → Int} {n off m N : Nat} (hN : off + m ≤ N) (hl : N ≤ L.length) (hL : ∀ i, i < N → L[i]? = some (.int .u8 (grown Z n i))) : ∀ i, i < N → (splice L off (nums P m))[i]? = some (.int .u8 (written Z P n off m i)) := by
  intro i hi
  unfold splice written
  by_cases h1 : i < off
  · rw [if_neg (by omega), List.getElem?_append_left (by rw [List.length_take]; omega), List.getElem?_take, if_pos h1]
    exact hL i hi
  · rw [List.getElem?_append_right (by rw [List.length_take]; omega), List.length_take, Nat.min_eq_left (by omega)]
    by_cases h2 : i < off + m
    · rw [if_pos (by omega), List.getElem?_append_left (by rw [nums_length]; omega)]
      exact nums_at P (by omega)
    · rw [if_neg (by omega), List.getElem?_append_right (by rw [nums_length]; omega), nums_length, List.getElem?_drop]
      rw [show off + m + (i - off - m) = i by omega]
      exact hL i hi
theorem splice_len {L : List Value} {P : Nat → Int} {off m N : Nat} (hN : off + m ≤ N) (hl : N ≤ L.length) : N ≤ (splice L off (nums P m)).length := by
  rw [length_splice L off (nums P m) (by rw [nums_length]; omega)]
  exact hl

theorem Bts.grownBy {w w' : World} {a : Option Addr} {n : Nat} {Z : Nat → Int} (h : Bts w a n Z) (hg : w.grownBy w' none) : Bts w' a n Z where
  cells := fun hn => by
    obtain ⟨b, off, e, hc⟩ := h.cells hn
    exact ⟨b, off, e, fun j hj => hg.cell (hc j hj) (by simp)⟩

/-- the row that resize handed back is written over -/
theorem wrote_row {w w1 : World} {r : Option Nat} {g : Nat} {L : Array Value} (hh : w1.heap[g]? = some (.cells L 5 (0, 0))) (hr : some g = r ∨ some g = none ∨ ∃ g', some g = some g' ∧ w.heap.size ≤ g') (hg : w.grownBy w1 none) (cs : Array Value) :
    (w1.setRow g cs).heap[g]? = some (.cells cs 5 (0, 0)) ∧ w.grownBy (w1.setRow g cs) r := by
  refine ⟨setRow_heap w1 g _ _ 5 _ hh, hg.os, hg.tape, hg.output, by have := hg.size; simpa [World.setRow] using this, fun k hk hne => ?_⟩
  have hkg : k ≠ g := by
    rintro rfl
    rcases hr with h | h | ⟨g', h, h2⟩
    · exact hne h
    · cases h
    · cases h; omega
  rw [setRow_other w1 g k cs hkg]
  exact hg.block k hk (by simp)

set_option maxHeartbeats 400000 in
theorem write_any (r : Option Nat) (a ap : Option Addr) (n off m cp N : Nat) (Z P : Nat → Int) (w : World) (hO : Own r w a n Z) (hP : Bts w ap m P) (hap : ap = none → m = 0) (hn : n ≤ 1048576) (hm : m ≤ 1048576) (hoff : off ≤ 65536) (hN : N = max n (off + m)) :
    Calls Trym.prog 18 #[.slice a n n, .int .i64 (off : Int), .slice ap m cp] w (Handed r r w N (written Z P n off m)) := by
  have HO := hide0 hO
  have HP := hide0 hP
  clear hO hP
  by_cases hc : n < off + m
  · obtain rfl : N = off + m := by omega
    clear hN
    go_enter Trym.func18, Trym.ntmps18
    go_wp2_with fail
    have hr := resize_any r a n (off + m) Z w HO.out hn (by omega)
    rw [Int.natCast_add] at hr
    refine hr.mono ?_
    clear hr
    rintro e w1 ⟨a', cp', r', rfl, hcp, ho, hr', hgr⟩
    have HG := hide0 hgr
    have HR := hide0 hr'
    by_cases hm0 : m = 0
    · subst hm0
      have W := hide0 (ho.congr (Z' := written Z P n off 0) (fun i hi => if_neg (by omega)))
      clear ho hgr hr'
      go_wp2_with (refine wpList_copy_nothing rfl _ _ 22 22 rfl 5 Trym.underlying22 Trym.size5 _ _ _ _ _ _ rfl rfl (by simp) ?_)
      all_goals
        go_ret
        exact ⟨_, _, _, rfl, by omega, W.out, HR.out, HG.out.but _⟩
    · rcases ho with ⟨_, h0⟩ | ⟨g, rfl, rfl, L, hh, hl, hL⟩
      · omega
      have HH := hide0 hh
      have HL := hide0 hL
      have HP1 := hide0 (HP.out.grownBy hgr)
      have R2 := hide0 (wrote_row hh hr' hgr (splice L off (nums P m)).toArray)
      clear hh hL hgr hr'
      cases ap with
      | none => exact absurd (hap rfl) hm0
      | some x =>
        clear hap
        have key := hide0 (bts_news HP1.out (Below.refl _ _))
        go_wp2_with (refine wpList_copy_own rfl _ _ 22 22 rfl 5 Trym.underlying22 Trym.size5 g off _ _ x m cp rfl rfl L.toArray 5 HH.out (nums P m) ?c1 key.out ?c3 (nums_one P m) ?_)
        case c1 => rw [nums_length]; first | (simp; done) | (show m = min _ _; omega)
        case c3 => rw [nums_length]; simp; omega
        go_ret
        exact ⟨_, _, some g, rfl, hcp, .inr ⟨g, rfl, rfl, _, R2.out.1, splice_len (by omega) hl, splice_at (by omega) hl HL.out⟩, HR.out, R2.out.2⟩
  · obtain rfl : N = n := by omega
    clear hN
    go_enter Trym.func18, Trym.ntmps18
    go_wp2_with fail
    refine (resize_any r a N N Z w HO.out hn (by omega)).mono ?_
    rintro e w1 ⟨a', cp', r', rfl, hcp, ho, hr', hgr⟩
    have HG := hide0 hgr
    have HR := hide0 hr'
    by_cases hm0 : m = 0
    · subst hm0
      have W := hide0 (ho.congr (Z' := written Z P N off 0) (fun i hi => if_neg (by omega)))
      clear ho hgr hr'
      go_wp2_with (refine wpList_copy_nothing rfl _ _ 22 22 rfl 5 Trym.underlying22 Trym.size5 _ _ _ _ _ _ rfl rfl (by simp) ?_)
      all_goals
        go_ret
        exact ⟨_, _, _, rfl, by omega, W.out, HR.out, HG.out.but _⟩
    · rcases ho with ⟨_, h0⟩ | ⟨g, rfl, rfl, L, hh, hl, hL⟩
      · omega
      have HH := hide0 hh
      have HL := hide0 hL
      have HP1 := hide0 (HP.out.grownBy hgr)
      have R2 := hide0 (wrote_row hh hr' hgr (splice L off (nums P m)).toArray)
      clear hh hL hgr hr'
      cases ap with
      | none => exact absurd (hap rfl) hm0
      | some x =>
        clear hap
        have key := hide0 (bts_news HP1.out (Below.refl _ _))
        go_wp2_with (refine wpList_copy_own rfl _ _ 22 22 rfl 5 Trym.underlying22 Trym.size5 g off _ _ x m cp rfl rfl L.toArray 5 HH.out (nums P m) ?c1 key.out ?c3 (nums_one P m) ?_)
        case c1 => rw [nums_length]; first | (simp; done) | (show m = min _ _; omega)
        case c3 => rw [nums_length]; simp; omega
        go_ret
        exact ⟨_, _, some g, rfl, hcp, .inr ⟨g, rfl, rfl, _, R2.out.1, splice_len (by omega) hl, splice_at (by omega) hl HL.out⟩, HR.out, R2.out.2⟩
end Go.Proofs.Qxb6000548aMods
