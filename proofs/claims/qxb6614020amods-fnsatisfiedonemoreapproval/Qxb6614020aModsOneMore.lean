/- FnSatisfiedOneMoreApproval (4): the walk -/
import Derived.Test.Qxb6614020aModsThreshold
namespace Go.Proofs.Qxb6614020aMods
open Go.ChangeShapes Go.WideShapes Go.ChangeAt Go.RowKit

theorem go_make9 (n : Nat) (hn : n ≤ 4096) (w : World) : (Instr.makeSlice 22 (.int .i64 (n : Int)) (.int .i64 (n : Int))).run Trym.prog w = .ok (.slice (some ⟨w.heap.size, 0, none⟩) n n) (w.alloc (.cells (madeCells #[.string ByteArray.empty] n) 9)) :=
  Go.run_make_row' 22 9 (.string ByteArray.empty) 16 Trym.underlying22 Trym.info9 rfl .i64 .i64 n (by omega) (by omega) w

/-- the votes with the i-th turned into an approval -/
def turned (V : Nat → ByteArray) (i : Nat) : Nat → ByteArray := fun j => if j = i then okv else V j
theorem turned_req {n m i : Nat} {M R V : Nat → ByteArray} (h : reqP n m M R V) : reqP n m M R (turned V i) := by
  intro j hj k hk e
  unfold turned
  split
  · rfl
  · exact h j hj k hk e
theorem turned_apprs (V : Nat → ByteArray) (i n : Nat) : apprs V n ≤ apprs (turned V i) n := by
  induction n with
  | zero => exact Nat.le_refl 0
  | succ n ih =>
    by_cases h : V n = okv
    · have h' : turned V i n = okv := by
        unfold turned
        split
        · rfl
        · exact h
      rw [apprs_yes h, apprs_yes h']; omega
    · rw [apprs_no h]
      have : apprs (turned V i) n ≤ apprs (turned V i) (n + 1) := by
        by_cases h' : turned V i n = okv
        · rw [apprs_yes h']; omega
        · rw [apprs_no h']; omega
      omega
theorem filled_row {w : World} {g n : Nat} {V : Nat → ByteArray} (h : Row w g n (fun j => if j < n then .string (V j) else .string ByteArray.empty)) {i : Nat} (hi : i < n) :
    Row (w.setCell ⟨g, i, none⟩ (.string okv)) g n (fun j => .string (turned V i j)) :=
  h.store hi fun j hj => by
    unfold turned
    by_cases e : j = i
    · rw [if_pos e, if_pos e]
    · rw [if_neg e, if_neg e, if_pos hj]

set_option maxRecDepth 100000 in
set_option maxHeartbeats 1000000 in
theorem onemore_walk (s0 s1 s2 : ByteArray) (q : Int) (a1 a2 a3 : Option Addr) (n m nv c1 c2 c3 : Nat) (x : Int) (M R V : Nat → ByteArray) (w : World) (hM : Strs w a1 n M) (hR : Strs w a2 m R) (hV : Strs w a3 nv V) :
    Calls Trym.prog 4 #[.string s0, .string s1, .string s2, .int .i64 q, .slice a1 n c1, .slice a2 m c2, .slice a3 nv c3, .int .i64 x] w fun e w' => e = .returned (.bool true) ∧ Below w.heap.size w w' := by
  have HM := hide0 hM
  have HR := hide0 hR
  have HV := hide0 hV
  clear hM hR hV
  go_enter Trym.func4, Trym.ntmps4
  go_wp2_with fail
  refine (bytes13_any _ _ _ _ _ _ _ _ _ _ _ _ _ _ M R V _ HM.out HR.out HV.out).mono ?_
  rintro e w1 ⟨⟨r, -, rfl⟩, rfl⟩
  cases r
  · go_wp2
    go_ret
    exact ⟨rfl, Below.refl _ _⟩
  go_wp2_with fail
  refine (fits_any _ _ _ _ _ _ _ _ _ _ _ _ _ M R V _ HM.out HR.out HV.out).mono ?_
  rintro e w2 ⟨⟨r, hf, rfl⟩, hb⟩
  cases r
  · clear hf
    go_wp2
    go_ret
    exact ⟨rfl, hb⟩
  have HF := hide0 (hf rfl)
  have HB := hide0 hb
  clear hf hb
  obtain rfl : nv = n := HF.out.same
  have hn4 := HF.out.n_le
  by_cases hx0 : x < 0
  · go_wp2
    go_ret
    exact ⟨rfl, HB.out⟩
  by_cases hx1 : (nv : Int) ≤ x
  · go_wp2
    go_ret
    exact ⟨rfl, HB.out⟩
  obtain ⟨i, rfl⟩ := Int.eq_ofNat_of_zero_le (show 0 ≤ x by omega)
  have hi : i < nv := by omega
  have hmk := fun w => go_make9 nv hn4 w
  go_wp2
  clear hmk
  go_loopw [18] (fun j wr => ∃ k : Nat, k ≤ nv ∧ j = .int .i64 k ∧ Row wr w2.heap.size nv (fun j => if j < k then .string (V j) else .string ByteArray.empty) ∧ Below w1.heap.size w1 wr) (fun j _ => nv - (intOf j).toNat)
  case atStart => exact ⟨0, by omega, rfl, by simpa using Row.made w2 (.string ByteArray.empty) 9 nv, HB.out.alloc HB.out.size _⟩
  case round =>
    obtain ⟨k, hk, rfl, hr1, hbel⟩ := hrel
    have R1 := hide0 hr1
    have HB2 := hide0 hbel
    clear hr1 hbel
    by_cases hlt : k < nv
    · obtain ⟨b, off, rfl, hc⟩ := (HV.out.below HB2.out).cells k hlt
      have d1 := hc k hlt
      have d2 := R1.out.cell k hlt
      have d3 := R1.out.free k
      rw [if_neg (by omega)] at d2
      clear hc
      go_wp2
      go_roundw
      case rel => exact ⟨k + 1, by omega, by go_num, R1.out.store hlt (fill_step V k), HB2.out.setCell HB.out.size _⟩
      case measure => simp [intOf]; omega
    · obtain rfl : k = nv := by omega
      have d2 := R1.out.cell i hi
      have d3 := R1.out.free i
      rw [if_pos hi] at d2
      go_wp2_with fail
      have RA : Hid (Row (wr.setCell ⟨w2.heap.size, i, none⟩ (.string ⟨#[97, 112, 112, 114, 111, 118, 101, 100]⟩)) w2.heap.size k (fun j => .string (turned V i j))) := filled_row R1.out hi
      have BA : Hid (Below w1.heap.size w1 (wr.setCell ⟨w2.heap.size, i, none⟩ (.string ⟨#[97, 112, 112, 114, 111, 118, 101, 100]⟩))) := HB2.out.setCell HB.out.size _
      clear R1 HB2 d2 d3
      generalize wr.setCell ⟨w2.heap.size, i, none⟩ (.string ⟨#[97, 112, 112, 114, 111, 118, 101, 100]⟩) = w3 at *
      refine (group_any _ _ _ _ _ _ _ _ _ _ _ _ _ V _ (HV.out.below BA.out) hn4).mono ?_
      rintro e w5 ⟨g, rfl, hg, hb⟩
      have G5 := hide0 hg
      have R5 := hide0 (RA.out.below hb)
      have B5 := hide0 (below_on BA.out hb)
      clear hg hb RA BA
      go_wp2_with fail
      refine (satisfied_any _ _ _ _ _ _ _ _ _ _ _ _ M R V _ (HM.out.below B5.out) (HR.out.below B5.out) G5.out HF.out).mono ?_
      rintro e w6 ⟨⟨r1, h1, rfl⟩, hb⟩
      have H1 := hide0 h1
      have R6 := hide0 (R5.out.below hb)
      have B6 := hide0 (below_on B5.out hb)
      clear h1 hb G5 B5 R5
      have SA := hide0 (R6.out.strs (by omega) (S := turned V i) (fun _ _ => rfl))
      go_wp2_with fail
      refine (group_any _ _ _ _ _ _ _ _ _ _ _ _ _ (turned V i) _ SA.out hn4).mono ?_
      rintro e w7 ⟨g7, rfl, hg, hb⟩
      have G7 := hide0 hg
      have S7 := hide0 (SA.out.below hb)
      have B7 := hide0 (below_on B6.out hb)
      clear hg hb SA R6 B6
      go_wp2_with fail
      refine (satisfied_any _ _ _ _ _ _ _ _ _ _ _ _ M R (turned V i) _ (HM.out.below B7.out) (HR.out.below B7.out) G7.out HF.out).mono ?_
      rintro e w8 ⟨⟨r2, h2, rfl⟩, hb⟩
      have H2 := hide0 h2
      have S8 := hide0 (S7.out.below hb)
      have B8 := hide0 (below_on B7.out hb)
      clear h2 hb G7 B7 S7
      go_wp2_with fail
      refine (required_any _ _ _ _ _ _ _ _ M R (turned V i) _ (HM.out.below B8.out) (HR.out.below B8.out) S8.out).mono ?_
      rintro e w9 ⟨⟨r3, h3, rfl⟩, rfl⟩
      have H3 := hide0 h3
      clear h3
      have hap := apprs_le (turned V i) k
      have K : Hid (r1 = true → r2 = true) := fun h => H2.out.2 ⟨turned_req (H1.out.1 h).1, by have := (H1.out.1 h).2; have := turned_apprs V i k; omega⟩
      clear H1
      cases r3
      · obtain rfl : r2 = false := by
          rw [Bool.eq_false_iff]
          intro h
          exact absurd (H3.out.2 (H2.out.1 h).1) (by simp)
        obtain rfl : r1 = false := by
          rw [Bool.eq_false_iff]
          intro h
          exact absurd (K.out h) (by simp)
        clear H2 H3 K
        go_wp2
        go_ret
        exact ⟨rfl, B8.out⟩
      · have H4 := hide0 (H3.out.1 rfl)
        clear H3
        go_wp2_with fail
        refine (approvals_any _ _ _ (turned V i) _ S8.out).mono ?_
        rintro e w10 ⟨rfl, rfl⟩
        by_cases hq : q ≤ (apprs (turned V i) k : Int)
        · obtain rfl : r2 = true := H2.out.2 ⟨H4.out, hq⟩
          clear H2 H4 K
          cases r1
          · go_wp2
            go_ret
            exact ⟨rfl, B8.out⟩
          · go_wp2
            go_ret
            exact ⟨rfl, B8.out⟩
        · obtain rfl : r2 = false := by
            rw [Bool.eq_false_iff]
            intro h
            exact hq (H2.out.1 h).2
          obtain rfl : r1 = false := by
            rw [Bool.eq_false_iff]
            intro h
            exact absurd (K.out h) (by simp)
          clear H2 H4 K
          have hd : decide (q ≤ (apprs (turned V i) k : Int)) = false := by simp; omega
          go_wp2
          go_ret
          exact ⟨rfl, B8.out⟩
end Go.Proofs.Qxb6614020aMods
