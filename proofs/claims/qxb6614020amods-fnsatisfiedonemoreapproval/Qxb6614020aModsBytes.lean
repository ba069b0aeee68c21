/- zzBytes_FnSatisfiedQuorumThreshold (7), zzBytes_FnSatisfiedOneMoreApproval (13): they answer a bool and touch nothing -/
import Derived.Test.Qxb6614020aModsFits2
namespace Go.Proofs.Qxb6614020aMods
open Go.ChangeShapes Go.WideShapes Go.ChangeAt Go.RowKit

set_option maxRecDepth 100000 in
set_option maxHeartbeats 1000000 in
theorem bytes7_any (s0 s1 s2 : ByteArray) (q : Int) (a1 a2 a3 : Option Addr) (n m nv c1 c2 c3 : Nat) (M R V : Nat → ByteArray) (w : World) (hM : Strs w a1 n M) (hR : Strs w a2 m R) (hV : Strs w a3 nv V) :
    Calls Trym.prog 7 #[.string s0, .string s1, .string s2, .int .i64 q, .slice a1 n c1, .slice a2 m c2, .slice a3 nv c3] w fun e w' => May True e ∧ w' = w := by
  have hsm := hM.small
  have hsr := hR.small
  have hsv := hV.small
  have HM := hide0 hM
  have HR := hide0 hR
  have HV := hide0 hV
  clear hM hR hV
  go_enter Trym.func7, Trym.ntmps7
  go_wp2
  all_goals try (go_ret; exact ⟨may_no, rfl⟩)
  go_loop [15, 16] (fun x i => ∃ (k : Nat) (t : Int), k ≤ n ∧ i = .int .i64 k ∧ x = .int .i64 t) (fun _ i => n - (intOf i).toNat)
  case atStart => exact ⟨0, _, by omega, rfl, rfl⟩
  case round =>
    obtain ⟨k, t, hk, rfl, rfl⟩ := hrel
    by_cases hlt : k < n
    · obtain ⟨b, off, rfl, hc⟩ := HM.out.cells k hlt
      have c1 := hc k hlt
      clear hc
      go_wp2
      · go_ret
        exact ⟨may_no, rfl⟩
      · go_ret
        exact ⟨may_no, rfl⟩
      · go_round
        case rel => exact ⟨k + 1, _, by omega, by go_num, rfl⟩
        case measure => simp [intOf]; omega
    · go_wp2
      all_goals try (go_ret; exact ⟨may_no, rfl⟩)
      go_loop [15, 17] (fun x i => ∃ (k : Nat) (t : Int), k ≤ m ∧ i = .int .i64 k ∧ x = .int .i64 t) (fun _ i => m - (intOf i).toNat)
      case atStart => exact ⟨0, _, by omega, rfl, rfl⟩
      case round =>
        obtain ⟨k, t, hk, rfl, rfl⟩ := hrel
        by_cases hlt : k < m
        · obtain ⟨b, off, rfl, hc⟩ := HR.out.cells k hlt
          have c1 := hc k hlt
          clear hc
          go_wp2
          · go_ret
            exact ⟨may_no, rfl⟩
          · go_ret
            exact ⟨may_no, rfl⟩
          · go_round
            case rel => exact ⟨k + 1, _, by omega, by go_num, rfl⟩
            case measure => simp [intOf]; omega
        · go_wp2
          all_goals try (go_ret; exact ⟨may_no, rfl⟩)
          go_loop [15, 18] (fun x i => ∃ (k : Nat) (t : Int), k ≤ nv ∧ i = .int .i64 k ∧ x = .int .i64 t) (fun _ i => nv - (intOf i).toNat)
          case atStart => exact ⟨0, _, by omega, rfl, rfl⟩
          case round =>
            obtain ⟨k, t, hk, rfl, rfl⟩ := hrel
            by_cases hlt : k < nv
            · obtain ⟨b, off, rfl, hc⟩ := HV.out.cells k hlt
              have c1 := hc k hlt
              clear hc
              go_wp2
              · go_ret
                exact ⟨may_no, rfl⟩
              · go_ret
                exact ⟨may_no, rfl⟩
              · go_round
                case rel => exact ⟨k + 1, _, by omega, by go_num, rfl⟩
                case measure => simp [intOf]; omega
            · go_wp2
              go_ret
              exact ⟨may_yes trivial, rfl⟩

set_option maxRecDepth 100000 in
set_option maxHeartbeats 1000000 in
theorem bytes13_any (s0 s1 s2 : ByteArray) (q : Int) (a1 a2 a3 : Option Addr) (n m nv c1 c2 c3 : Nat) (x : Int) (M R V : Nat → ByteArray) (w : World) (hM : Strs w a1 n M) (hR : Strs w a2 m R) (hV : Strs w a3 nv V) :
    Calls Trym.prog 13 #[.string s0, .string s1, .string s2, .int .i64 q, .slice a1 n c1, .slice a2 m c2, .slice a3 nv c3, .int .i64 x] w fun e w' => May True e ∧ w' = w := by
  have hsm := hM.small
  have hsr := hR.small
  have hsv := hV.small
  have HM := hide0 hM
  have HR := hide0 hR
  have HV := hide0 hV
  clear hM hR hV
  go_enter Trym.func13, Trym.ntmps13
  go_wp2
  all_goals try (go_ret; exact ⟨may_no, rfl⟩)
  go_loop [17, 18] (fun x i => ∃ (k : Nat) (t : Int), k ≤ n ∧ i = .int .i64 k ∧ x = .int .i64 t) (fun _ i => n - (intOf i).toNat)
  case atStart => exact ⟨0, _, by omega, rfl, rfl⟩
  case round =>
    obtain ⟨k, t, hk, rfl, rfl⟩ := hrel
    by_cases hlt : k < n
    · obtain ⟨b, off, rfl, hc⟩ := HM.out.cells k hlt
      have c1 := hc k hlt
      clear hc
      go_wp2
      · go_ret
        exact ⟨may_no, rfl⟩
      · go_ret
        exact ⟨may_no, rfl⟩
      · go_round
        case rel => exact ⟨k + 1, _, by omega, by go_num, rfl⟩
        case measure => simp [intOf]; omega
    · go_wp2
      all_goals try (go_ret; exact ⟨may_no, rfl⟩)
      go_loop [17, 19] (fun x i => ∃ (k : Nat) (t : Int), k ≤ m ∧ i = .int .i64 k ∧ x = .int .i64 t) (fun _ i => m - (intOf i).toNat)
      case atStart => exact ⟨0, _, by omega, rfl, rfl⟩
      case round =>
        obtain ⟨k, t, hk, rfl, rfl⟩ := hrel
        by_cases hlt : k < m
        · obtain ⟨b, off, rfl, hc⟩ := HR.out.cells k hlt
          have c1 := hc k hlt
          clear hc
          go_wp2
          · go_ret
            exact ⟨may_no, rfl⟩
          · go_ret
            exact ⟨may_no, rfl⟩
          · go_round
            case rel => exact ⟨k + 1, _, by omega, by go_num, rfl⟩
            case measure => simp [intOf]; omega
        · go_wp2
          all_goals try (go_ret; exact ⟨may_no, rfl⟩)
          go_loop [17, 20] (fun x i => ∃ (k : Nat) (t : Int), k ≤ nv ∧ i = .int .i64 k ∧ x = .int .i64 t) (fun _ i => nv - (intOf i).toNat)
          case atStart => exact ⟨0, _, by omega, rfl, rfl⟩
          case round =>
            obtain ⟨k, t, hk, rfl, rfl⟩ := hrel
            by_cases hlt : k < nv
            · obtain ⟨b, off, rfl, hc⟩ := HV.out.cells k hlt
              have c1 := hc k hlt
              clear hc
              go_wp2
              · go_ret
                exact ⟨may_no, rfl⟩
              · go_ret
                exact ⟨may_no, rfl⟩
              · go_round
                case rel => exact ⟨k + 1, _, by omega, by go_num, rfl⟩
                case measure => simp [intOf]; omega
            · go_wp2
              go_ret
              exact ⟨may_yes trivial, rfl⟩
end Go.Proofs.Qxb6614020aMods
