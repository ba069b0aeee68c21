/- FnLandTruncateMatchesModel (4): the walk -/
import Derived.Test.Qxb6000548aModsFile
namespace Go.Proofs.Qxb6000548aMods
open Go.ChangeShapes Go.WideShapes Go.ChangeAt Go.RowKit

set_option maxRecDepth 100000 in
set_option maxHeartbeats 400000 in
theorem truncate_early (a : Option Addr) (n c : Nat) (size : Int) (w : World) (hn9 : n ≤ 9223372036854775807) (h : ¬ (n ≤ 1048576 ∧ 0 ≤ size ∧ size ≤ 65536)) :
    Calls Trym.prog 4 #[.slice a n c, .int .i64 size] w fun e w' => e = .returned (.bool true) ∧ Below w.heap.size w w' := by
  by_cases h1 : 1048576 < n
  · clear h
    go_enter Trym.func4, Trym.ntmps4
    go_wp2
    go_ret
    exact ⟨rfl, Below.refl _ _⟩
  by_cases h4 : size < 0
  · clear h
    go_enter Trym.func4, Trym.ntmps4
    go_wp2
    go_ret
    exact ⟨rfl, Below.refl _ _⟩
  · have h5 : 65536 < size := by omega
    clear h
    go_enter Trym.func4, Trym.ntmps4
    go_wp2
    go_ret
    exact ⟨rfl, Below.refl _ _⟩

set_option maxRecDepth 100000 in
set_option maxHeartbeats 1000000 in
theorem truncate_walk (a : Option Addr) (n c size : Nat) (Z : Nat → Int) (w : World) (hZ : Bts w a n Z) (h0 : a = none → n = 0) (hn : n ≤ 1048576) (hs : size ≤ 65536) :
    Calls Trym.prog 4 #[.slice a n c, .int .i64 (size : Int)] w fun e w' => e = .returned (.bool true) ∧ Below w.heap.size w w' := by
  have HZ := hide0 hZ
  have H0 := hide0 h0
  clear hZ h0
  go_enter Trym.func4, Trym.ntmps4
  go_wp2_with (first | (go_at_call 10; go_in))
  refine (clone_any _ _ _ Z _ HZ.out H0.out hn).mono ?_
  rintro e w1 ⟨a1, r1, rfl, ho1, -, hb1⟩
  have S1 := hide0 ho1.bts
  have N1 := hide0 ho1.none
  have B1 := hide0 hb1
  clear ho1 hb1
  go_wp2_with fail
  refine (clone_any _ _ _ Z _ S1.out N1.out hn).mono ?_
  rintro e w3 ⟨a3, r3, rfl, ho3, hr3, hb3⟩
  have O3 := hide0 ho3
  have R3 := hide0 hr3
  have B3 := hide0 hb3
  clear ho3 hr3 hb3
  go_wp2_with fail
  refine (file_truncate r3 a3 n size 0 Z _ O3.out hn hs).mono ?_
  rintro e w4 ⟨a4, cp4, r4, rfl, ho4, hg4⟩
  have B4 : Hid (Below w1.heap.size w1 w4) := B3.out.grown hg4 B3.out.size (fun k hk => R3.out k hk)
  have S4 := hide0 (S1.out.below B4.out)
  have G4 := hide0 ho4.bts
  have BF := hide0 (below_on B1.out B4.out)
  clear ho4 hg4 S1 N1 O3 R3 B1 B3 B4 HZ H0
  go_wp2
  go_loop [7] (fun i => ∃ k : Nat, k ≤ size ∧ i = .int .i64 k) (fun i => size - (intOf i).toNat)
  case atStart => exact ⟨0, by omega, rfl⟩
  case round =>
    obtain ⟨k, hk, rfl⟩ := hrel
    by_cases hlt : k < size
    · obtain ⟨b4, o4, rfl, hc4⟩ := G4.out.cells (by omega)
      have d4 := hc4 k hlt
      clear hc4
      by_cases h2 : k < n
      · obtain ⟨b1, o1, rfl, hc1⟩ := S4.out.cells (by omega)
        have d1 := hc1 k h2
        rw [show grown Z n k = Z k from if_pos h2] at d4
        clear hc1
        go_wp2
        go_round
        case rel => exact ⟨k + 1, by omega, by go_num⟩
        case measure => simp [intOf]; omega
      · rw [show grown Z n k = 0 from if_neg h2] at d4
        go_wp2
        go_round
        case rel => exact ⟨k + 1, by omega, by go_num⟩
        case measure => simp [intOf]; omega
    · go_wp2
      go_ret
      exact ⟨rfl, BF.out⟩
end Go.Proofs.Qxb6000548aMods
