/- FnLandWriteMatchesModel (3): the walk -/
import Derived.Test.Qxb6000548aModsFile
namespace Go.Proofs.Qxb6000548aMods
open Go.ChangeShapes Go.WideShapes Go.ChangeAt Go.RowKit

set_option maxRecDepth 100000 in
set_option maxHeartbeats 400000 in
theorem write_early (a ap : Option Addr) (n c m cp : Nat) (off : Int) (w : World) (hn9 : n ≤ 9223372036854775807) (hm9 : m ≤ 9223372036854775807) (h : ¬ (n + m ≤ 1048576 ∧ 0 ≤ off ∧ off ≤ 65536)) :
    Calls Trym.prog 3 #[.slice a n c, .slice ap m cp, .int .i64 off] w fun e w' => e = .returned (.bool true) ∧ Below w.heap.size w w' := by
  by_cases h1 : 1048576 < n
  · clear h
    go_enter Trym.func3, Trym.ntmps3
    go_wp2
    go_ret
    exact ⟨rfl, Below.refl _ _⟩
  by_cases h2 : 1048576 < m
  · clear h
    go_enter Trym.func3, Trym.ntmps3
    go_wp2
    go_ret
    exact ⟨rfl, Below.refl _ _⟩
  by_cases h3 : 1048576 < n + m
  · clear h
    go_enter Trym.func3, Trym.ntmps3
    go_wp2
    go_ret
    exact ⟨rfl, Below.refl _ _⟩
  by_cases h4 : off < 0
  · clear h
    go_enter Trym.func3, Trym.ntmps3
    go_wp2
    go_ret
    exact ⟨rfl, Below.refl _ _⟩
  · have h5 : 65536 < off := by omega
    clear h
    go_enter Trym.func3, Trym.ntmps3
    go_wp2
    go_ret
    exact ⟨rfl, Below.refl _ _⟩

set_option maxRecDepth 100000 in
set_option maxHeartbeats 1000000 in
theorem write_walk (a ap : Option Addr) (n c m cp off : Nat) (Z P : Nat → Int) (w : World) (hZ : Bts w a n Z) (h0 : a = none → n = 0) (hP : Bts w ap m P) (hp0 : ap = none → m = 0) (hnm : n + m ≤ 1048576) (hoff : off ≤ 65536) :
    Calls Trym.prog 3 #[.slice a n c, .slice ap m cp, .int .i64 (off : Int)] w fun e w' => e = .returned (.bool true) ∧ Below w.heap.size w w' := by
  have HZ := hide0 hZ
  have HP := hide0 hP
  have H0 := hide0 h0
  have HP0 := hide0 hp0
  clear hZ hP h0 hp0
  go_enter Trym.func3, Trym.ntmps3
  go_wp2_with (first | (go_at_call 7; go_in))
  refine (clone_any _ _ _ Z _ HZ.out H0.out (by omega)).mono ?_
  rintro e w1 ⟨a1, r1, rfl, ho1, -, hb1⟩
  have O1 := hide0 ho1
  have B1 := hide0 hb1
  clear ho1 hb1
  go_wp2_with fail
  refine (clone_any _ _ _ P _ (HP.out.below B1.out) HP0.out (by omega)).mono ?_
  rintro e w2 ⟨a2, r2, rfl, ho2, -, hb2⟩
  have O2 := hide0 ho2
  have B2 := hide0 hb2
  have S2 := hide0 (O1.out.bts.below hb2)
  have N1 := hide0 (O1.out.none)
  clear ho2 hb2 O1
  go_wp2_with fail
  refine (clone_any _ _ _ Z _ S2.out N1.out (by omega)).mono ?_
  rintro e w3 ⟨a3, r3, rfl, ho3, hr3, hb3⟩
  have O3 := hide0 ho3
  have R3 := hide0 hr3
  have B3 := hide0 hb3
  have P3 := hide0 (O2.out.bts.below hb3)
  have N2 := hide0 (O2.out.none)
  clear ho3 hr3 hb3
  go_wp2_with fail
  refine (file_write r3 a3 a2 n off m m 0 Z P _ O3.out P3.out N2.out (by omega) (by omega) hoff).mono ?_
  rintro e w4 ⟨a4, cp4, r4, rfl, ho4, hg4⟩
  have B4 : Hid (Below w2.heap.size w2 w4) := B3.out.grown hg4 B3.out.size (fun k hk => R3.out k hk)
  have S4 := hide0 (S2.out.below B4.out)
  have P4 := hide0 (O2.out.bts.below B4.out)
  have G4 := hide0 ho4.bts
  have BF := hide0 (below_on (below_on B1.out B2.out) B4.out)
  clear ho4 hg4 S2 P3 N1 N2 O2 O3 R3 B1 B2 B3 B4 HZ HP H0 HP0
  by_cases hc : n < off + m
  · obtain ⟨N, hN⟩ : ∃ N, N = max n (off + m) := ⟨_, rfl⟩
    rw [← hN] at G4 ⊢
    obtain rfl : N = off + m := by omega
    clear hN
    go_wp2
    go_loop [11] (fun i => ∃ k : Nat, k ≤ off + m ∧ i = .int .i64 k) (fun i => off + m - (intOf i).toNat)
    case atStart => exact ⟨0, by omega, rfl⟩
    case round =>
      obtain ⟨k, hk, rfl⟩ := hrel
      by_cases hlt : k < off + m
      · obtain ⟨b4, o4, rfl, hc4⟩ := G4.out.cells (by omega)
        have d4 := hc4 k hlt
        clear hc4
        by_cases h1 : off ≤ k ∧ k < off + m
        · obtain ⟨h1a, h1b⟩ := h1
          obtain ⟨j, rfl⟩ : ∃ j, k = off + j := ⟨k - off, by omega⟩
          obtain ⟨b2, o2, rfl, hc2⟩ := P4.out.cells (by omega)
          have d2 := hc2 j (by omega)
          rw [show written Z P n off m (off + j) = P j from (if_pos ⟨h1a, h1b⟩).trans (by rw [Nat.add_sub_cancel_left])] at d4
          clear hc2
          go_wp2
          go_round
          case rel => exact ⟨off + j + 1, by omega, by go_num⟩
          case measure => simp [intOf]; omega
        · by_cases h2 : k < n
          · obtain ⟨b1, o1, rfl, hc1⟩ := S4.out.cells (by omega)
            have d1 := hc1 k h2
            rw [show written Z P n off m k = Z k from (if_neg h1).trans (if_pos h2)] at d4
            clear hc1
            have h3 : k < off := by omega
            clear h1
            go_wp2
            go_round
            case rel => exact ⟨k + 1, by omega, by go_num⟩
            case measure => simp [intOf]; omega
          · rw [show written Z P n off m k = 0 from (if_neg h1).trans (if_neg h2)] at d4
            have h3 : k < off := by omega
            clear h1
            go_wp2
            go_round
            case rel => exact ⟨k + 1, by omega, by go_num⟩
            case measure => simp [intOf]; omega
      · go_wp2
        go_ret
        exact ⟨rfl, BF.out⟩
  · obtain ⟨N, hN⟩ : ∃ N, N = max n (off + m) := ⟨_, rfl⟩
    rw [← hN] at G4 ⊢
    obtain rfl : N = n := by omega
    clear hN
    go_wp2
    go_loop [11] (fun i => ∃ k : Nat, k ≤ N ∧ i = .int .i64 k) (fun i => N - (intOf i).toNat)
    case atStart => exact ⟨0, by omega, rfl⟩
    case round =>
      obtain ⟨k, hk, rfl⟩ := hrel
      by_cases hlt : k < N
      · obtain ⟨b4, o4, rfl, hc4⟩ := G4.out.cells (by omega)
        have d4 := hc4 k hlt
        clear hc4
        by_cases h1 : off ≤ k ∧ k < off + m
        · obtain ⟨h1a, h1b⟩ := h1
          obtain ⟨j, rfl⟩ : ∃ j, k = off + j := ⟨k - off, by omega⟩
          obtain ⟨b2, o2, rfl, hc2⟩ := P4.out.cells (by omega)
          have d2 := hc2 j (by omega)
          rw [show written Z P N off m (off + j) = P j from (if_pos ⟨h1a, h1b⟩).trans (by rw [Nat.add_sub_cancel_left])] at d4
          clear hc2
          go_wp2
          go_round
          case rel => exact ⟨off + j + 1, by omega, by go_num⟩
          case measure => simp [intOf]; omega
        · by_cases h2 : k < N
          · obtain ⟨b1, o1, rfl, hc1⟩ := S4.out.cells (by omega)
            have d1 := hc1 k h2
            rw [show written Z P N off m k = Z k from (if_neg h1).trans (if_pos h2)] at d4
            clear hc1
            rcases (show k < off ∨ off + m ≤ k by omega) with h3 | h3
            · clear h1
              go_wp2
              go_round
              case rel => exact ⟨k + 1, by omega, by go_num⟩
              case measure => simp [intOf]; omega
            · clear h1
              go_wp2
              go_round
              case rel => exact ⟨k + 1, by omega, by go_num⟩
              case measure => simp [intOf]; omega
          · exact absurd hlt h2
      · go_wp2
        go_ret
        exact ⟨rfl, BF.out⟩
end Go.Proofs.Qxb6000548aMods
