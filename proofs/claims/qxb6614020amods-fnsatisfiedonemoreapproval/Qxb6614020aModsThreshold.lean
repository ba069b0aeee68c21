/- FnSatisfiedQuorumThreshold (3): the walk -/
import Derived.Test.Qxb6614020aModsNeeds
import Derived.Test.Qxb6614020aModsBytes
namespace Go.Proofs.Qxb6614020aMods
open Go.ChangeShapes Go.WideShapes Go.ChangeAt Go.RowKit

theorem Fits.at {q q' : Int} {n m : Nat} {M R : Nat → ByteArray} (h : Fits q n m n M R) (h1 : -1073741824 ≤ q') (h2 : q' ≤ 1073741824) : Fits q' n m n M R :=
  ⟨rfl, h.n_le, h.m_le, h1, h2, h.once, h.member⟩

/-- from what the reader gives to 'Strs' -/
theorem strs_of {W : World} {x : Addr} {len cap : Nat} {ss : List ByteArray} (hl : len ≤ cap) (hm : cap ≤ maxLen) (hz : ss.length = cap) (hc : ∀ i, i < ss.length → W.cell? (x.add i) = some (.string (ss.getD i ByteArray.empty))) : ∃ S, Strs W (some x) len S := by
  refine ⟨fun i => ss.getD i ByteArray.empty, by unfold maxLen at hm; omega, fun i hi => ?_⟩
  obtain ⟨b, off, spot⟩ := x
  have hspot : spot = none := by simpa [Addr.add] using World.cell?_spot (hc 0 (by omega))
  subst hspot
  exact ⟨b, off, rfl, fun j hj => by rw [← Go.WideShapes.add_plain]; exact hc j (by omega)⟩

/-- Below, one world on -/
theorem below_on {w w1 w2 : World} (h : Below w.heap.size w w1) (k : Below w1.heap.size w1 w2) : Below w.heap.size w w2 := h.trans (k.mono h.size)

set_option maxRecDepth 100000 in
set_option maxHeartbeats 1000000 in
theorem threshold_walk (s0 s1 s2 : ByteArray) (q : Int) (a1 a2 a3 : Option Addr) (n m nv c1 c2 c3 : Nat) (M R V : Nat → ByteArray) (w : World) (hM : Strs w a1 n M) (hR : Strs w a2 m R) (hV : Strs w a3 nv V) :
    Calls Trym.prog 3 #[.string s0, .string s1, .string s2, .int .i64 q, .slice a1 n c1, .slice a2 m c2, .slice a3 nv c3] w fun e w' => e = .returned (.bool true) ∧ Below w.heap.size w w' := by
  have HM := hide0 hM
  have HR := hide0 hR
  have HV := hide0 hV
  clear hM hR hV
  go_enter Trym.func3, Trym.ntmps3
  go_wp2_with fail
  refine (bytes7_any _ _ _ _ _ _ _ _ _ _ _ _ _ M R V _ HM.out HR.out HV.out).mono ?_
  rintro e w1 ⟨⟨r, -, rfl⟩, rfl⟩
  cases r
  · go_wp2
    go_ret
    exact ⟨rfl, Below.refl _ _⟩
  go_wp2_with fail
  refine (fits_any _ _ _ _ _ _ _ _ _ _ _ _ _ M R V _ HM.out HR.out HV.out).mono ?_
  rintro e w2 ⟨⟨r, hf, rfl⟩, hb⟩
  cases r
  · clear hf
    go_wp2
    go_ret
    exact ⟨rfl, hb⟩
  have HF := hide0 (hf rfl)
  have HB := hide0 hb
  clear hf hb
  obtain rfl : nv = n := HF.out.same
  have hn4 := HF.out.n_le
  go_wp2_with fail
  refine (approvals_any _ _ _ V _ (HV.out.below HB.out)).mono ?_
  rintro e w3 ⟨rfl, rfl⟩
  have hap := apprs_le V nv
  go_wp2_with fail
  refine (required_any _ _ _ _ _ _ _ _ M R V _ (HM.out.below HB.out) (HR.out.below HB.out) (HV.out.below HB.out)).mono ?_
  rintro e w4 ⟨⟨rq, hrq, rfl⟩, rfl⟩
  have HRQ := hide0 hrq
  clear hrq
  go_wp2_with fail
  refine (group_any _ _ _ _ _ _ _ _ _ _ _ _ _ V _ (HV.out.below HB.out) hn4).mono ?_
  rintro e w5 ⟨g, rfl, hg, hb⟩
  have G5 := hide0 hg
  have B5 := hide0 (below_on HB.out hb)
  clear hg hb
  go_wp2_with fail
  refine (satisfied_any _ _ _ _ _ _ _ _ _ _ _ _ M R V _ (HM.out.below B5.out) (HR.out.below B5.out) G5.out HF.out).mono ?_
  rintro e w6 ⟨⟨r1, h1, rfl⟩, hb⟩
  have H1 := hide0 h1
  have B6 := hide0 (below_on B5.out hb)
  clear h1 hb G5 B5
  go_wp2_with fail
  refine (group_any _ _ _ _ _ _ _ _ _ _ _ _ _ V _ (HV.out.below B6.out) hn4).mono ?_
  rintro e w7 ⟨g7, rfl, hg, hb⟩
  have G7 := hide0 hg
  have B7 := hide0 (below_on B6.out hb)
  clear hg hb
  go_wp2_with fail
  refine (satisfied_any _ _ _ _ _ _ _ _ _ _ _ _ M R V _ (HM.out.below B7.out) (HR.out.below B7.out) G7.out (HF.out.at (by omega) (by omega))).mono ?_
  rintro e w8 ⟨⟨r2, h2, rfl⟩, hb⟩
  have H2 := hide0 h2
  have B8 := hide0 (below_on B7.out hb)
  clear h2 hb G7 B7 B6
  go_wp2_with fail
  refine (group_any _ _ _ _ _ _ _ _ _ _ _ _ _ V _ (HV.out.below B8.out) hn4).mono ?_
  rintro e w9 ⟨g9, rfl, hg, hb⟩
  have G9 := hide0 hg
  have B9 := hide0 (below_on B8.out hb)
  clear hg hb
  go_wp2_with fail
  refine (satisfied_any _ _ _ _ _ _ _ _ _ _ _ _ M R V _ (HM.out.below B9.out) (HR.out.below B9.out) G9.out (HF.out.at (by omega) (by omega))).mono ?_
  rintro e w10 ⟨⟨r3, h3, rfl⟩, hb⟩
  have H3 := hide0 h3
  have B10 := hide0 (below_on B9.out hb)
  clear h3 hb G9 B9 B8
  obtain rfl : r3 = false := by
    have := H3.out
    cases r3
    · rfl
    · have := (this.1 rfl).2; omega
  obtain rfl : r2 = rq := by
    have h2 := H2.out
    have hq := HRQ.out
    rw [Bool.eq_iff_iff, h2, hq]
    exact ⟨fun h => h.1, fun h => ⟨h, Int.le_refl _⟩⟩
  by_cases hq : q ≤ (apprs V nv : Int)
  · obtain rfl : r1 = r2 := by
      have h1 := H1.out
      have hq' := HRQ.out
      rw [Bool.eq_iff_iff, h1, hq']
      exact ⟨fun h => h.1, fun h => ⟨h, hq⟩⟩
    clear H1 H2 H3 HRQ
    cases r1
    · go_wp2
      go_ret
      exact ⟨rfl, B10.out⟩
    · go_wp2
      go_ret
      exact ⟨rfl, B10.out⟩
  · obtain rfl : r1 = false := by
      have h1 := H1.out
      cases r1
      · rfl
      · exact absurd (h1.1 rfl).2 hq
    clear H1 H2 H3 HRQ
    cases r2
    · go_wp2
      go_ret
      exact ⟨rfl, B10.out⟩
    · have hd : decide (q ≤ (apprs V nv : Int)) = false := by simp; omega
      go_wp2
      go_ret
      exact ⟨rfl, B10.out⟩
end Go.Proofs.Qxb6614020aMods
