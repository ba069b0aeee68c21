/- zzAddStringBytes (21), zzRequiredApproved (10), zzGroupFits (8) -/
import Derived.Test.Qxb6614020aModsBase
import Derived.Deep.QuietTactic
import Derived.BigQuiet
namespace Go.Proofs.Qxb6614020aMods
open Go.ChangeShapes Go.WideShapes Go.ChangeAt Go.RowKit

/-- a number and a bool are handed back -/
def Tot (e : Ending) : Prop := ∃ (t : Int) (r : Bool), e = .returned (.tuple #[.int .i64 t, .bool r])

set_option maxHeartbeats 400000 in
theorem addBytes_any (t : Int) (a : Option Addr) (n c : Nat) (S : Nat → ByteArray) (w : World) (hS : Strs w a n S) :
    Calls Trym.prog 21 #[.int .i64 t, .slice a n c] w fun e w' => Tot e ∧ w' = w := by
  have hsm := hS.small
  have HS := hide0 hS
  clear hS
  go_enter Trym.func21, Trym.ntmps21
  go_wp2
  go_loop [0, 6] (fun x i => ∃ (k : Nat) (t' : Int), k ≤ n ∧ i = .int .i64 k ∧ x = .int .i64 t') (fun _ i => n - (intOf i).toNat)
  case atStart => exact ⟨0, t, by omega, rfl, rfl⟩
  case round =>
    obtain ⟨k, t', hk, rfl, rfl⟩ := hrel
    by_cases hlt : k < n
    · obtain ⟨b, off, rfl, hc⟩ := HS.out.cells k hlt
      have c1 := hc k hlt
      clear hc
      go_wp2
      · go_ret2
        exact ⟨⟨_, _, rfl⟩, rfl⟩
      · go_ret2
        exact ⟨⟨_, _, rfl⟩, rfl⟩
      · go_round
        case rel => exact ⟨k + 1, _, by omega, by go_num, rfl⟩
        case measure => simp [intOf]; omega
    · go_wp2
      go_ret2
      exact ⟨⟨_, _, rfl⟩, rfl⟩

/-- the answer is a bool that says whether p holds -/
def Says (p : Prop) (e : Ending) : Prop := ∃ r : Bool, (r = true ↔ p) ∧ e = .returned (.bool r)
theorem says_yes {p : Prop} (h : p) : Says p (.returned (.bool true)) := ⟨true, by simp [h], rfl⟩
theorem says_no {p : Prop} (h : ¬ p) : Says p (.returned (.bool false)) := ⟨false, by simp [h], rfl⟩

/-- every required member approved -/
def reqP (n m : Nat) (M R V : Nat → ByteArray) : Prop := ∀ j, j < n → ∀ k, k < m → R k = M j → V j = okv

theorem req_succ {k m : Nat} {M R V : Nat → ByteArray} (h : reqP k m M R V) (e : ∀ k', k' < m → R k' = M k → V k = okv) : reqP (k + 1) m M R V := by
  intro j hj k' hk' h'
  by_cases e1 : j = k
  · subst e1; exact e k' hk' h'
  · exact h j (by omega) k' hk' h'

set_option maxHeartbeats 400000 in
theorem required_any (a1 a2 a3 : Option Addr) (n m c1 c2 c3 : Nat) (M R V : Nat → ByteArray) (w : World) (hM : Strs w a1 n M) (hR : Strs w a2 m R) (hV : Strs w a3 n V) :
    Calls Trym.prog 10 #[.slice a1 n c1, .slice a2 m c2, .slice a3 n c3] w fun e w' => Says (reqP n m M R V) e ∧ w' = w := by
  have hsm := hM.small
  have HM := hide0 hM
  have HR := hide0 hR
  have HV := hide0 hV
  clear hM hR hV
  go_enter Trym.func10, Trym.ntmps10
  go_wp2
  go_loop [8] (fun i => ∃ k : Nat, k ≤ n ∧ i = .int .i64 k ∧ reqP k m M R V) (fun i => n - (intOf i).toNat)
  case atStart => exact ⟨0, by omega, rfl, fun j hj => absurd hj (by omega)⟩
  case round =>
    obtain ⟨k, hk, rfl, hreq⟩ := hrel
    have HQ := hide0 hreq
    clear hreq
    by_cases hlt : k < n
    · obtain ⟨b, off, rfl, hc⟩ := HM.out.cells k hlt
      have d1 := hc k hlt
      obtain ⟨b', off', rfl, hc'⟩ := HV.out.cells k hlt
      have d3 := hc' k hlt
      clear hc hc'
      by_cases e : V k = okv
      · have E := hide0 e
        have e1 := ok_true e
        clear e
        go_wp2
        go_round
        case rel => exact ⟨k + 1, by omega, by go_num, req_succ HQ.out fun _ _ _ => E.out⟩
        case measure => simp [intOf]; omega
      · have E := hide0 e
        have e1 := ok_false e
        clear e
        by_cases hh : ∃ k', k' < m ∧ R k' = M k
        · have hb := has_iff.2 hh
          have HH := hide0 hh
          clear hh
          go_wp2_with (go_at_call 22; refine (contains_any _ _ _ _ _ _ HR.out).mono ?_; rintro e w' ⟨rfl, rfl⟩)
          go_ret
          refine ⟨says_no ?_, rfl⟩
          intro h
          obtain ⟨k', h1, h2⟩ := HH.out
          exact E.out (h k hlt k' h1 h2)
        · have hb : has m R (M k) = false := by rw [Bool.eq_false_iff]; intro h; exact hh (has_iff.1 h)
          have HH := hide0 hh
          clear hh
          go_wp2_with (go_at_call 22; refine (contains_any _ _ _ _ _ _ HR.out).mono ?_; rintro e w' ⟨rfl, rfl⟩)
          go_round
          case rel => exact ⟨k + 1, by omega, by go_num, req_succ HQ.out fun k' h1 h2 => absurd ⟨k', h1, h2⟩ HH.out⟩
          case measure => simp [intOf]; omega
    · have hkn : k = n := by omega
      subst hkn
      go_wp2
      go_ret
      exact ⟨says_yes HQ.out, rfl⟩
end Go.Proofs.Qxb6614020aMods
