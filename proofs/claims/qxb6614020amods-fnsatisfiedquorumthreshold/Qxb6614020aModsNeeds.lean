/- (GroupVotes).Needs (23), (GroupVotes).Satisfied (12) -/
import Derived.Test.Qxb6614020aModsGroup
import Derived.WalkSmall
namespace Go.Proofs.Qxb6614020aMods
open Go.ChangeShapes Go.WideShapes Go.ChangeAt Go.RowKit

set_option maxHeartbeats 400000 in
/-- slices.Index, where the string stands at one place alone -/
theorem index_at (a : Option Addr) (n c : Nat) (S : Nat → ByteArray) (s : ByteArray) (w : World) (hS : Strs w a n S) (j : Nat) (hj : j < n) (hSj : S j = s) (hu : ∀ i, i < n → S i = s → i = j) :
    Calls Trym.prog 26 #[.slice a n c, .string s] w fun e w' => e = .returned (.int .i64 j) ∧ w' = w := by
  refine (index_any a n c S s w hS ⟨j, hj, hSj⟩).mono ?_
  rintro e w' ⟨⟨k, hk, h, rfl⟩, rfl⟩
  rw [hu k hk h]
  exact ⟨rfl, rfl⟩

theorem req_yes {n k j : Nat} {M R V : Nat → ByteArray} (hu : ∀ i, i < n → M i = R k → i = j) (hv : V j = okv) : reqP n (k + 1) M R V ↔ reqP n k M R V := by
  constructor
  · intro h i hi k' hk' e
    exact h i hi k' (by omega) e
  · intro h i hi k' hk' e
    by_cases e1 : k' = k
    · subst e1; rw [hu i hi e.symm]; exact hv
    · exact h i hi k' (by omega) e
theorem req_no {n k j : Nat} {M R V : Nat → ByteArray} (hj : j < n) (hMj : M j = R k) (hv : ¬ V j = okv) : ¬ reqP n (k + 1) M R V :=
  fun h => hv (h j hj k (by omega) hMj.symm)

theorem Trym.info9 : (Trym.prog.info? 9).map (fun i => (i.zero, i.size, i.bytes)) = some (some (.string ByteArray.empty), 1, 16) := by kernel_rfl

theorem uniq {n k j : Nat} {M R : Nat → ByteArray} (h : ∀ i j, j < i → i < n → M j ≠ M i) (hj : j < n) (hMj : M j = R k) : ∀ i, i < n → M i = R k → i = j := by
  intro i hi e
  rcases Nat.lt_trichotomy i j with h1 | h1 | h1
  · exact absurd (e.trans hMj.symm) (h j i h1 hj)
  · exact h1
  · exact absurd (hMj.trans e.symm) (h i j h1 hi)

theorem own_drewN {w : World} {base : Nat} {e : TypeId} {size : Nat} {v : Value} {n : Nat} {xs : List Value} (h : w.ownsRow base e size v n xs) (k : Nat) : (w.drewN k).ownsRow base e size v n xs := h

theorem own_ge {w : World} {base : Nat} {e : TypeId} {size : Nat} {v : Value} {n : Nat} {xs : List Value} (h : w.ownsRow base e size v n xs) : ∀ k, v.ownBlock = some k → base ≤ k := by
  intro k hk
  rcases h.2 with ⟨h1, _⟩ | ⟨g, cap, cur, h1, h2, _⟩
  · rw [h1] at hk; simp [Value.ownBlock] at hk
  · rw [h1] at hk; simp [Value.ownBlock] at hk; omega

theorem own_form {w : World} {base : Nat} {e : TypeId} {size : Nat} {v : Value} {n : Nat} {xs : List Value} (h : w.ownsRow base e size v n xs) : ∃ a cp, v = .slice a n cp := by
  rcases h.2 with ⟨h1, h2⟩ | ⟨g, cap, cur, h1, _⟩
  · exact ⟨none, 0, by rw [h1, h2]⟩
  · exact ⟨_, _, h1⟩

/-- what Needs hands back: a list of what is missing, and a number -/
def Lacks (w : World) (n m : Nat) (q : Int) (M R V : Nat → ByteArray) (e : Ending) (w' : World) : Prop :=
  ∃ (a : Option Addr) (cp mm : Nat) (more : Int), e = .returned (.tuple #[.slice a mm cp, .int .i64 more]) ∧ (mm = 0 ↔ reqP n m M R V) ∧ (mm = 0 → (more = 0 ↔ q ≤ (apprs V n : Int))) ∧ Below w.heap.size w w'

set_option maxRecDepth 100000 in
set_option maxHeartbeats 1000000 in
theorem needs_any (s0 s1 s2 : ByteArray) (q : Int) (a1 a2 a3 : Option Addr) (n m c1 c2 c3 : Nat) (M R V : Nat → ByteArray) (w : World) (hM : Strs w a1 n M) (hR : Strs w a2 m R) (hV : Strs w a3 n V) (hf : Fits q n m n M R) :
    Calls Trym.prog 23 #[.agg #[.string s0, .string s1, .string s2, .int .i64 q, .slice a1 n c1, .slice a2 m c2, .slice a3 n c3]] w (Lacks w n m q M R V) := by
  have hbx : Below w.heap.size w (w.alloc (.cells #[.string s0, .string s1, .string s2, .int .i64 q, .slice a1 n c1, .slice a2 m c2, .slice a3 n c3] 30)) := (Below.refl _ _).alloc (Nat.le_refl _) _
  have HM := hide0 (hM.below hbx)
  have HR := hide0 (hR.below hbx)
  have HV := hide0 (hV.below hbx)
  have HF := hide0 hf
  clear hM hR hV hf hbx
  obtain ⟨i0, hi, hz0, hz1, hz2⟩ := info_parts Trym.info9
  go_enter Trym.func23, Trym.ntmps23
  go_wp2
  generalize hw0 : w.alloc (.cells #[.string s0, .string s1, .string s2, .int .i64 q, .slice a1 n c1, .slice a2 m c2, .slice a3 n c3] 30) = w0 at *
  have k3 : w0.cell? ⟨w.heap.size, 3, none⟩ = some (.int .i64 q) := by rw [← hw0]; simp [go_sem]
  have k4 : w0.cell? ⟨w.heap.size, 4, none⟩ = some (.slice a1 n c1) := by rw [← hw0]; simp [go_sem]
  have k6 : w0.cell? ⟨w.heap.size, 6, none⟩ = some (.slice a3 n c3) := by rw [← hw0]; simp [go_sem]
  have hz : w0.heap.size = w.heap.size + 1 := by rw [← hw0]; simp
  have hbx : Below w.heap.size w w0 := by rw [← hw0]; exact (Below.refl _ _).alloc (Nat.le_refl _) _
  have K3 := hide0 k3
  have K4 := hide0 k4
  have K6 := hide0 k6
  have HZ := hide0 hz
  have HBX := hide0 hbx
  have hn4 := HF.out.n_le
  have hm4 := HF.out.m_le
  clear hw0 k3 k4 k6 hz hbx
  go_loopw [2, 13] (fun v i wr => ∃ (k mm : Nat) (xs : List Value), k ≤ m ∧ mm ≤ k ∧ i = .int .i64 k ∧ wr.ownsRow w0.heap.size 9 1 v mm xs ∧ (mm = 0 ↔ reqP n k M R V) ∧ Below w0.heap.size w0 wr) (fun _ i _ => m - (intOf i).toNat)
  case atStart => exact ⟨0, 0, [], by omega, by omega, rfl, World.ownsRow_nil _ _ _ _, ⟨fun _ i _ k' hk' => absurd hk' (by omega), fun _ => rfl⟩, Below.refl _ _⟩
  case round =>
    obtain ⟨k, mm, xs, hk, hmm, rfl, hown, hreq, hbel⟩ := hrel
    rename_i v
    obtain ⟨av, cv, rfl⟩ := own_form hown
    have HO := hide0 hown
    have HQ := hide0 hreq
    have HB := hide0 hbel
    clear hown hreq hbel
    by_cases hlt : k < m
    · obtain ⟨b2, o2, rfl, hc2⟩ := (HR.out.below HB.out).cells k hlt
      have d2 := hc2 k hlt
      obtain ⟨j, hj, hMj⟩ := HF.out.member k hlt
      obtain ⟨b3, o3, rfl, hc3⟩ := (HV.out.below HB.out).cells j hj
      have d3 := hc3 j hj
      have d4 := cell_later HB.out K4.out
      have d6 := cell_later HB.out K6.out
      have HU : Hid (∀ i, i < n → M i = R k → i = j) := uniq HF.out.once hj hMj
      have HMJ := hide0 hMj
      have HM2 := hide0 (HM.out.below HB.out)
      have bj : (j : Int) < (n : Int) := by omega
      clear hc2 hc3 hMj
      by_cases e : V j = okv
      · have E := hide0 e
        have e1 := ok_true e
        clear e
        go_wp2
        go_quiet ((go_at_call 26; exact Calls.quiet_of_same (index_at _ _ _ M (R k) _ (by exact HM2.out.below (below_drewN (Below.refl _ _) _)) j hj HMJ.out HU.out)))
        go_wp2
        go_roundw
        case rel => exact ⟨k + 1, mm, xs, by omega, by omega, by go_num, own_drewN HO.out _, HQ.out.trans (req_yes HU.out E.out).symm, below_drewN HB.out _⟩
        case measure => simp [intOf]; omega
      · have E := hide0 e
        have e1 := ok_false e
        clear e
        go_wp2
        go_quiet ((go_at_call 26; exact Calls.quiet_of_same (index_at _ _ _ M (R k) _ (by exact HM2.out.below (below_drewN (Below.refl _ _) _)) j hj HMJ.out HU.out)))
        go_wp2_with (at_builtin; refine wpList_append_own _ rfl _ _ 22 rfl w0.heap.size 9 i0 (.string ByteArray.empty) 1 16 Trym.underlying22 hi hz0 hz1 hz2 rfl (by decide) (.slice av mm cv) mm xs rfl ((own_drewN HO.out _).alloc _) ⟨wr.heap.size, 0, none⟩ 1 1 [.string (R k)] rfl rfl ?c1 ?c2 ?c3 ?c4 ?c5 ?_)
        case c1 =>
          intro j' u hj'
          match j', hj' with
          | 0, hj' =>
            simp at hj'
            subst hj'
            show ((wr.drewN nq).alloc _).cell? ⟨(wr.drewN nq).heap.size, 0, none⟩ = _
            rw [World.cell?_alloc_new]
            rfl
        case c2 => intro u hu; simp at hu; subst hu; rfl
        case c3 => unfold maxLen; omega
        case c4 => omega
        case c5 => have := HB.out.size; simp; omega
        intro v' w1 hown' hgrow _
        have O2 := hide0 hown'
        have G2 := hide0 hgrow
        clear hown' hgrow
        go_wp2
        go_roundw
        case rel => exact ⟨k + 1, mm + 1, _, by omega, by omega, by go_num, O2.out, ⟨fun h => absurd h (by omega), fun h => absurd h (req_no hj HMJ.out E.out)⟩, ((below_drewN HB.out _).alloc HB.out.size _).grown G2.out (by have := HB.out.size; simp; omega) (own_ge (HO.out))⟩
        case measure => simp [intOf]; omega
    · have hkm : k = m := by omega
      subst hkm
      have d6 := cell_later HB.out K6.out
      go_wp2
      go_loop [6, 35] (fun x i => ∃ l : Nat, l ≤ n ∧ i = .int .i64 l ∧ x = .int .i64 (apprs V l)) (fun _ i => n - (intOf i).toNat)
      case atStart => exact ⟨0, by omega, rfl, rfl⟩
      case round =>
        obtain ⟨l, hl, rfl, rfl⟩ := hrel
        have hle := apprs_le V l
        by_cases hlt2 : l < n
        · obtain ⟨b3, o3, rfl, hc3⟩ := (HV.out.below HB.out).cells l hlt2
          have d3 := hc3 l hlt2
          clear hc3
          by_cases e : V l = okv
          · have E := hide0 (apprs_yes e)
            have e1 := ok_true e
            clear e
            go_wp2
            go_round
            case rel => exact ⟨l + 1, by omega, by go_num, by rw [E.out]; go_num⟩
            case measure => simp [intOf]; omega
          · have E := hide0 (apprs_no e)
            have e1 := ok_false e
            clear e
            go_wp2
            go_round
            case rel => exact ⟨l + 1, by omega, by go_num, by rw [E.out]⟩
            case measure => simp [intOf]; omega
        · have hln : l = n := by omega
          subst hln
          have d3 := cell_later HB.out K3.out
          have hq1 := HF.out.q_lo
          have hq2 := HF.out.q_hi
          go_wp2
          go_region
          all_goals go_wp2
          all_goals go_ret2
          · exact ⟨av, cv, mm, q - (apprs V l : Int) - (mm : Int), rfl, HQ.out, fun h => by omega, (HBX.out.trans (HB.out.mono (by have := HZ.out; omega))).drew⟩
          · exact ⟨av, cv, mm, 0, rfl, HQ.out, fun h => by omega, (HBX.out.trans (HB.out.mono (by have := HZ.out; omega))).drew⟩

/-- (GroupVotes).Satisfied answers whether every required member approved and the quorum is met -/
def Sat (w : World) (p : Prop) (e : Ending) (w' : World) : Prop := Says p e ∧ Below w.heap.size w w'

set_option maxRecDepth 100000 in
set_option maxHeartbeats 1000000 in
theorem satisfied_any (s0 s1 s2 : ByteArray) (q : Int) (a1 a2 a3 : Option Addr) (n m c1 c2 c3 : Nat) (M R V : Nat → ByteArray) (w : World) (hM : Strs w a1 n M) (hR : Strs w a2 m R) (hV : Strs w a3 n V) (hf : Fits q n m n M R) :
    Calls Trym.prog 12 #[.agg #[.string s0, .string s1, .string s2, .int .i64 q, .slice a1 n c1, .slice a2 m c2, .slice a3 n c3]] w (Sat w (reqP n m M R V ∧ q ≤ (apprs V n : Int))) := by
  have hbx : Below w.heap.size w (w.alloc (.cells #[.string s0, .string s1, .string s2, .int .i64 q, .slice a1 n c1, .slice a2 m c2, .slice a3 n c3] 30)) := (Below.refl _ _).alloc (Nat.le_refl _) _
  have HM := hide0 (hM.below hbx)
  have HR := hide0 (hR.below hbx)
  have HV := hide0 (hV.below hbx)
  have HBX := hide0 hbx
  clear hM hR hV hbx
  go_enter Trym.func12, Trym.ntmps12
  go_wp2_with fail
  refine (needs_any s0 s1 s2 q a1 a2 a3 n m c1 c2 c3 M R V _ HM.out HR.out HV.out hf).mono ?_
  rintro e w1 ⟨av, cv, mm, more, rfl, h1, h2, hb⟩
  have H1 := hide0 h1
  have H2 := hide0 h2
  have HB := hide0 (HBX.out.trans (hb.mono (by simp)))
  clear h1 h2 hb
  by_cases e1 : mm = 0
  · have G1 := hide0 (H1.out.1 e1)
    have G2 := hide0 (H2.out e1)
    clear H1 H2
    subst e1
    by_cases e2 : more = 0
    · have G3 := hide0 (G2.out.1 e2)
      clear G2
      subst e2
      go_wp2
      go_ret
      exact ⟨says_yes ⟨G1.out, G3.out⟩, HB.out⟩
    · have G3 : Hid ((apprs V n : Int) < q) := Int.not_le.1 fun h => e2 (G2.out.2 h)
      have hb2 : (more == 0) = false := by simp [e2]
      clear G2
      go_wp2
      go_ret
      exact ⟨says_no fun h => Int.not_le.2 G3.out h.2, HB.out⟩
  · have hb1 : ((mm : Int) == 0) = false := by simp; omega
    go_wp2
    go_ret
    exact ⟨says_no fun h => e1 (H1.out.2 h.1), HB.out⟩
end Go.Proofs.Qxb6614020aMods
