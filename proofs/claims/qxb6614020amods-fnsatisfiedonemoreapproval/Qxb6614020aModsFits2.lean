/- zzGroupFits (8) -/
import Derived.Test.Qxb6614020aModsFits
import Derived.WalkSmall
namespace Go.Proofs.Qxb6614020aMods
open Go.ChangeShapes Go.WideShapes Go.ChangeAt Go.RowKit

/-- what zzGroupFits holds where it says yes -/
structure Fits (q : Int) (n m nv : Nat) (M R : Nat → ByteArray) : Prop where
  same : nv = n
  n_le : n ≤ 4096
  m_le : m ≤ 4096
  q_lo : -1073741824 ≤ q
  q_hi : q ≤ 1073741824
  once : ∀ i j, j < i → i < n → M j ≠ M i
  member : ∀ k, k < m → ∃ j, j < n ∧ M j = R k

/-- the answer is a bool; where it is true p holds -/
def May (p : Prop) (e : Ending) : Prop := ∃ r : Bool, (r = true → p) ∧ e = .returned (.bool r)
theorem may_no {p : Prop} : May p (.returned (.bool false)) := ⟨false, fun h => (by cases h), rfl⟩
theorem may_yes {p : Prop} (h : p) : May p (.returned (.bool true)) := ⟨true, fun _ => h, rfl⟩

theorem once_succ {M : Nat → ByteArray} {k : Nat} (h : ∀ i j, j < i → i < k → M j ≠ M i) (e : ∀ j, j < k → M j ≠ M k) : ∀ i j, j < i → i < k + 1 → M j ≠ M i := by
  intro i j hj hi
  by_cases h' : i = k
  · subst h'; exact e j hj
  · exact h i j hj (by omega)
theorem mem_succ {M R : Nat → ByteArray} {l n : Nat} (h : ∀ x, x < l → ∃ j, j < n ∧ M j = R x) (e : ∃ j, j < n ∧ M j = R l) : ∀ x, x < l + 1 → ∃ j, j < n ∧ M j = R x := by
  intro x hx
  by_cases h' : x = l
  · subst h'; exact e
  · exact h x (by omega)

set_option maxRecDepth 100000 in
set_option maxHeartbeats 2000000 in
theorem fits_any (s0 s1 s2 : ByteArray) (q : Int) (a1 a2 a3 : Option Addr) (n m nv c1 c2 c3 : Nat) (M R V : Nat → ByteArray) (w : World) (hM : Strs w a1 n M) (hR : Strs w a2 m R) (hV : Strs w a3 nv V) :
    Calls Trym.prog 8 #[.string s0, .string s1, .string s2, .int .i64 q, .slice a1 n c1, .slice a2 m c2, .slice a3 nv c3] w fun e w' => May (Fits q n m nv M R) e ∧ Below w.heap.size w w' := by
  have hsm := hM.small
  have hsr := hR.small
  have hsv := hV.small
  have HM := hide0 hM
  have HR := hide0 hR
  have HV := hide0 hV
  clear hM hR hV
  go_enter Trym.func8, Trym.ntmps8
  go_wp2_with fail
  all_goals try (go_ret; exact ⟨may_no, Below.refl _ _⟩)
  have hn4 : n ≤ 4096 := by omega
  have hm4 : m ≤ 4096 := by omega
  have hv4 : nv ≤ 4096 := by omega
  refine (addBytes_any _ _ _ _ _ _ HM.out).mono ?_
  rintro e w1 ⟨⟨t1, r1, rfl⟩, rfl⟩
  cases r1
  · go_wp2
    go_ret
    exact ⟨may_no, Below.refl _ _⟩
  go_wp2_with fail
  refine (addBytes_any _ _ _ _ _ _ HR.out).mono ?_
  rintro e w1 ⟨⟨t2, r2, rfl⟩, rfl⟩
  cases r2
  · go_wp2
    go_ret
    exact ⟨may_no, Below.refl _ _⟩
  go_wp2_with fail
  refine (addBytes_any _ _ _ _ _ _ HV.out).mono ?_
  rintro e w1 ⟨⟨t3, r3, rfl⟩, rfl⟩
  cases r3
  · go_wp2
    go_ret
    exact ⟨may_no, Below.refl _ _⟩
  by_cases hq1 : q < -1073741824
  · go_wp2
    go_ret
    exact ⟨may_no, Below.refl _ _⟩
  by_cases hq2 : 1073741824 < q
  · go_wp2
    go_ret
    exact ⟨may_no, Below.refl _ _⟩
  by_cases hnv : nv = n
  case neg =>
    have hb : ((nv : Int) != (n : Int)) = true := by rw [bne_iff_ne]; omega
    go_wp2
    go_ret
    exact ⟨may_no, Below.refl _ _⟩
  subst hnv
  go_wp2
  go_loopw [17] (fun i wr => ∃ k : Nat, k ≤ nv ∧ i = .int .i64 k ∧ (∀ i j, j < i → i < k → M j ≠ M i) ∧ Below w1.heap.size w1 wr) (fun i _ => nv - (intOf i).toNat)
  case atStart => exact ⟨0, by omega, rfl, fun i j _ hi => absurd hi (by omega), Below.refl _ _⟩
  case round =>
    obtain ⟨k, hk, rfl, hon, hbel⟩ := hrel
    have HO := hide0 hon
    have HB := hide0 hbel
    clear hon hbel
    by_cases hlt : k < nv
    · have hd : decide ((k : Int) < (nv : Int)) = true := by simp; omega
      go_wp2
      go_loopw [18] (fun i wr => ∃ l : Nat, l ≤ k ∧ i = .int .i64 l ∧ (∀ j, j < l → M j ≠ M k) ∧ Below w1.heap.size w1 wr) (fun i _ => k - (intOf i).toNat)
      case atStart => exact ⟨0, by omega, rfl, fun j hj => absurd hj (by omega), HB.out⟩
      case round =>
        obtain ⟨l, hl, rfl, hno, hbel⟩ := hrel
        have HN := hide0 hno
        have HB2 := hide0 hbel
        clear hno hbel hd
        by_cases hlt2 : l < k
        · obtain ⟨b, off, rfl, hc⟩ := (HM.out.below HB2.out).cells k hlt
          have d1 := hc l (by omega)
          have d2 := hc k hlt
          have b1 : (l : Int) < (nv : Int) := by omega
          have b2 : (k : Int) < (nv : Int) := by omega
          clear hc
          by_cases e : M l = M k
          · have e1 := str_eq_true e
            clear e
            go_wp2
            go_quiet (fail)
            go_wp2
            go_ret
            exact ⟨may_no, below_drewN HB2.out _⟩
          · have E := hide0 e
            have e1 := str_eq_false e
            clear e
            go_wp2
            go_quiet (fail)
            go_wp2
            go_roundw
            case rel => exact ⟨l + 1, by omega, by go_num, no_succ HN.out E.out, below_drewN HB2.out _⟩
            case measure => simp [intOf]; omega
        · have hlk : l = k := by omega
          subst hlk
          go_wp2
          go_roundw
          case rel => exact ⟨l + 1, by omega, by go_num, once_succ HO.out HN.out, HB2.out⟩
          case measure => simp [intOf]; omega
    · have hkn : k = nv := by omega
      subst hkn
      go_wp2
      go_loop [19] (fun i => ∃ l : Nat, l ≤ m ∧ i = .int .i64 l ∧ ∀ x, x < l → ∃ j, j < k ∧ M j = R x) (fun i => m - (intOf i).toNat)
      case atStart => exact ⟨0, by omega, rfl, fun x hx => absurd hx (by omega)⟩
      case round =>
        obtain ⟨l, hl, rfl, hmem⟩ := hrel
        have HX := hide0 hmem
        clear hmem
        by_cases hlt2 : l < m
        · obtain ⟨b, off, rfl, hc⟩ := (HR.out.below HB.out).cells l hlt2
          have d1 := hc l hlt2
          have HM2 := hide0 (HM.out.below HB.out)
          clear hc
          by_cases hh : ∃ j, j < k ∧ M j = R l
          · have hb := has_iff.2 hh
            have HH := hide0 hh
            clear hh
            go_wp2_with (go_at_call 22; refine (contains_any _ _ _ _ _ _ HM2.out).mono ?_; rintro e w' ⟨rfl, rfl⟩)
            go_round
            case rel => exact ⟨l + 1, by omega, by go_num, mem_succ HX.out HH.out⟩
            case measure => simp [intOf]; omega
          · have hb : has k M (R l) = false := by rw [Bool.eq_false_iff]; intro h; exact hh (has_iff.1 h)
            clear hh
            go_wp2_with (go_at_call 22; refine (contains_any _ _ _ _ _ _ HM2.out).mono ?_; rintro e w' ⟨rfl, rfl⟩)
            go_ret
            exact ⟨may_no, HB.out⟩
        · have hlm : l = m := by omega
          subst hlm
          go_wp2
          go_ret
          exact ⟨may_yes ⟨rfl, by omega, by omega, by omega, by omega, HO.out, HX.out⟩, HB.out⟩
end Go.Proofs.Qxb6614020aMods
