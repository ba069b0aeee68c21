/- A slice of strings that is read; the contracts of zzContains (22), zzApprovals (9), slices.Index (26), zzAddStringBytes (21). -/
import Derived.Test.Qxb6614020aModsRows
import Derived.WalkKit
import Derived.ProofKit
import Derived.Below
import Derived.WalkSpells
namespace Go.Proofs.Qxb6614020aMods
open Go.ChangeShapes Go.WideShapes Go.ChangeAt Go.RowKit

theorem hide0 {p : Prop} (h : p) : Hid p := h

/-- the slice at 'a' of 'n' elements reads as the strings S 0 .. S (n - 1) -/
structure Strs (w : World) (a : Option Addr) (n : Nat) (S : Nat → ByteArray) : Prop where
  small : n ≤ 9223372036854775807
  cells : ∀ i, i < n → ∃ b off, a = some ⟨b, off, none⟩ ∧ ∀ j, j < n → w.cell? ⟨b, off + j, none⟩ = some (.string (S j))

theorem Strs.below {w w' : World} {a : Option Addr} {n : Nat} {S : Nat → ByteArray} (h : Strs w a n S) (hb : Below w.heap.size w w') : Strs w' a n S where
  small := h.small
  cells := fun i hi => by
    obtain ⟨b, off, e, hc⟩ := h.cells i hi
    exact ⟨b, off, e, fun j hj => cell_later hb (hc j hj)⟩

/-- is s among the first n of S? -/
def has (n : Nat) (S : Nat → ByteArray) (s : ByteArray) : Bool := (List.range n).any fun i => decide (S i = s)

theorem has_iff {n : Nat} {S : Nat → ByteArray} {s : ByteArray} : has n S s = true ↔ ∃ k, k < n ∧ S k = s := by
  simp only [has, List.any_eq_true, List.mem_range, decide_eq_true_eq]
theorem has_true {n : Nat} {S : Nat → ByteArray} {s : ByteArray} {k : Nat} (hk : k < n) (h : S k = s) : has n S s = true := has_iff.2 ⟨k, hk, h⟩
theorem has_false {n : Nat} {S : Nat → ByteArray} {s : ByteArray} (h : ∀ k, k < n → S k ≠ s) : has n S s = false := by
  rw [Bool.eq_false_iff]; intro h'
  obtain ⟨k, hk, e⟩ := has_iff.1 h'
  exact h k hk e

theorem str_eq_true {x y : ByteArray} (h : x = y) : (x.toList == y.toList) = true := by rw [h]; simp
theorem str_eq_false {x y : ByteArray} (h : ¬ x = y) : (x.toList == y.toList) = false := by
  rw [beq_eq_false_iff_ne]
  intro e
  rw [ByteArray.toList_eq, ByteArray.toList_eq] at e
  apply h
  obtain ⟨⟨x⟩⟩ := x
  obtain ⟨⟨y⟩⟩ := y
  simp only at e
  rw [e]

/-- the vote 'approved' -/
def okv : ByteArray := ⟨#[97, 112, 112, 114, 111, 118, 101, 100]⟩
theorem okv_list : okv.toList = [97, 112, 112, 114, 111, 118, 101, 100] := ByteArray.toList_mk _
theorem ok_true {x : ByteArray} (h : x = okv) : (x.toList == [97, 112, 112, 114, 111, 118, 101, 100]) = true := by rw [← okv_list]; exact str_eq_true h
theorem ok_false {x : ByteArray} (h : ¬ x = okv) : (x.toList == [97, 112, 112, 114, 111, 118, 101, 100]) = false := by rw [← okv_list]; exact str_eq_false h

/-- how many of the first n votes are 'approved' -/
def apprs (V : Nat → ByteArray) : Nat → Nat
  | 0 => 0
  | n + 1 => apprs V n + if V n = okv then 1 else 0
theorem apprs_le (V : Nat → ByteArray) (n : Nat) : apprs V n ≤ n := by
  induction n with
  | zero => exact Nat.le_refl 0
  | succ n ih => unfold apprs; split <;> omega
theorem apprs_yes {V : Nat → ByteArray} {n : Nat} (h : V n = okv) : apprs V (n + 1) = apprs V n + 1 := by
  show apprs V n + (if V n = okv then 1 else 0) = _
  rw [if_pos h]
theorem apprs_no {V : Nat → ByteArray} {n : Nat} (h : ¬ V n = okv) : apprs V (n + 1) = apprs V n := by
  show apprs V n + (if V n = okv then 1 else 0) = _
  rw [if_neg h]; rfl

theorem no_succ {S : Nat → ByteArray} {s : ByteArray} {k : Nat} (h : ∀ j, j < k → S j ≠ s) (e : ¬ S k = s) : ∀ j, j < k + 1 → S j ≠ s := by
  intro j hj
  by_cases h' : j = k
  · rw [h']; exact e
  · exact h j (by omega)

theorem ret_bool {a b : Bool} (h : a = b) : Ending.returned (.bool a) = .returned (.bool b) := by rw [h]
theorem ret_int {k : IntKind} {a b : Int} (h : a = b) : Ending.returned (.int k a) = .returned (.int k b) := by rw [h]

set_option maxHeartbeats 400000 in
theorem contains_any (a : Option Addr) (n c : Nat) (S : Nat → ByteArray) (s : ByteArray) (w : World) (hS : Strs w a n S) :
    Calls Trym.prog 22 #[.slice a n c, .string s] w fun e w' => e = .returned (.bool (has n S s)) ∧ w' = w := by
  have hsm := hS.small
  have HS := hide0 hS
  clear hS
  go_enter Trym.func22, Trym.ntmps22
  go_wp2
  go_loop [5] (fun i => ∃ k : Nat, k ≤ n ∧ i = .int .i64 k ∧ ∀ j, j < k → S j ≠ s) (fun i => n - (intOf i).toNat)
  case atStart => exact ⟨0, by omega, rfl, fun j hj => absurd hj (by omega)⟩
  case round =>
    obtain ⟨k, hk, rfl, hno⟩ := hrel
    have HN := hide0 hno
    clear hno
    by_cases hlt : k < n
    · obtain ⟨b, off, rfl, hc⟩ := HS.out.cells k hlt
      have c1 := hc k hlt
      clear hc
      by_cases e : S k = s
      · have E := hide0 e
        have e1 := str_eq_true e
        clear e
        go_wp2
        go_ret
        exact ⟨ret_bool (has_true hlt E.out).symm, rfl⟩
      · have E := hide0 e
        have e1 := str_eq_false e
        clear e
        go_wp2
        go_round
        case rel => exact ⟨k + 1, by omega, by go_num, no_succ HN.out E.out⟩
        case measure => simp [intOf]; omega
    · go_wp2
      go_ret
      exact ⟨ret_bool (has_false fun j hj => HN.out j (by omega)).symm, rfl⟩

set_option maxHeartbeats 400000 in
/-- slices.Index, where the string is there: a place at which it stands -/
theorem index_any (a : Option Addr) (n c : Nat) (S : Nat → ByteArray) (s : ByteArray) (w : World) (hS : Strs w a n S) (hex : ∃ k, k < n ∧ S k = s) :
    Calls Trym.prog 26 #[.slice a n c, .string s] w fun e w' => (∃ k : Nat, k < n ∧ S k = s ∧ e = .returned (.int .i64 k)) ∧ w' = w := by
  have hsm := hS.small
  have HS := hide0 hS
  have HX := hide0 hex
  clear hS hex
  go_enter Trym.func26, Trym.ntmps26
  go_wp2
  go_loop [8] (fun i => ∃ k : Nat, k ≤ n ∧ i = .int .i64 k ∧ ∀ j, j < k → S j ≠ s) (fun i => n - (intOf i).toNat)
  case atStart => exact ⟨0, by omega, rfl, fun j hj => absurd hj (by omega)⟩
  case round =>
    obtain ⟨k, hk, rfl, hno⟩ := hrel
    have HN := hide0 hno
    clear hno
    by_cases hlt : k < n
    · obtain ⟨b, off, rfl, hc⟩ := HS.out.cells k hlt
      have c1 := hc k hlt
      clear hc
      by_cases e : S k = s
      · have E := hide0 e
        have e1 := str_eq_true e.symm
        clear e
        go_wp2
        go_ret
        exact ⟨⟨k, hlt, E.out, rfl⟩, rfl⟩
      · have E := hide0 e
        have e1 := str_eq_false fun h => e h.symm
        clear e
        go_wp2
        go_round
        case rel => exact ⟨k + 1, by omega, by go_num, no_succ HN.out E.out⟩
        case measure => simp [intOf]; omega
    · obtain ⟨j, hj, he⟩ := HX.out
      exact absurd he (HN.out j (by omega))

set_option maxHeartbeats 400000 in
theorem approvals_any (a : Option Addr) (n c : Nat) (V : Nat → ByteArray) (w : World) (hV : Strs w a n V) :
    Calls Trym.prog 9 #[.slice a n c] w fun e w' => e = .returned (.int .i64 (apprs V n)) ∧ w' = w := by
  have hsm := hV.small
  have HV := hide0 hV
  clear hV
  go_enter Trym.func9, Trym.ntmps9
  go_wp2
  go_loop [4, 5] (fun m i => ∃ k : Nat, k ≤ n ∧ i = .int .i64 k ∧ m = .int .i64 (apprs V k)) (fun _ i => n - (intOf i).toNat)
  case atStart => exact ⟨0, by omega, rfl, rfl⟩
  case round =>
    obtain ⟨k, hk, rfl, rfl⟩ := hrel
    have hle := apprs_le V k
    by_cases hlt : k < n
    · obtain ⟨b, off, rfl, hc⟩ := HV.out.cells k hlt
      have c1 := hc k hlt
      clear hc
      by_cases e : V k = okv
      · have E := hide0 (apprs_yes e)
        have e1 := ok_true e
        clear e
        go_wp2
        go_round
        case rel => exact ⟨k + 1, by omega, by go_num, by rw [E.out]; go_num⟩
        case measure => simp [intOf]; omega
      · have E := hide0 (apprs_no e)
        have e1 := ok_false e
        clear e
        go_wp2
        go_round
        case rel => exact ⟨k + 1, by omega, by go_num, by rw [E.out]⟩
        case measure => simp [intOf]; omega
    · have hkn : k = n := by omega
      subst hkn
      go_wp2
      go_ret
      exact ⟨rfl, rfl⟩
end Go.Proofs.Qxb6614020aMods
