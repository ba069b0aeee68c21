/- 'Rows.FnEntryBeforeIsStrictAndPicksTheLaterSaid': the frame is the guide's shell for this function; the walk is mine. -/
import Derived.Test.Qxb6613818aModsRows
import Derived.Test.Qxb6613818aModsBefore
import Derived.WalkKit
import Derived.ProofKit
import Derived.OpenShut
import Derived.ShutString
namespace Go.Proofs.Qxb6613818aMods.fnEntryBeforeIsStrictAndPicksTheLater
open Go.ChangeShapes Go.WideShapes Go.ChangeAt Go.RowKit
open Go.ChangeMaps (open_string shut_string)
set_option linter.unusedVariables false      -- a walk need not use every 'w<i>' (that an integer argument fits its kind)

theorem own : ownKnob Trym.prog.godebug = none := by kernel_rfl

theorem own_laid : laidOutB Trym.prog = true := by kernel_rfl

/-! ### THE WALK -/
set_option maxHeartbeats 400000 in
theorem walk (a0 : Int) (a1 : Int) (a2 : Int) (a3 : Int) (w : World) :
    Calls Trym.prog 3 #[.int .u64 a0, .int .u64 a1, .int .u64 a2, .int .u64 a3] w fun e w' => e = .returned (.bool true) ∧ Below w.heap.size w w' := by
  have fin : ∀ {w1 w2 : World}, Below w.heap.size w w1 → Below w1.heap.size w1 w2 → Below w.heap.size w w2 := fun h k => h.trans (k.mono h.size)
  rcases (show a0 < a2 ∨ a2 < a0 ∨ a0 = a2 from by omega) with h | h | h
  · have e1 := bef_lt (b := a1) (d := a3) h
    have e2 := bef_gt (b := a3) (d := a1) h
    have t1 : (a0 == a2) = false := by simp; omega
    go_enter Trym.func3, Trym.ntmps3
    go_wp2_with fail
    refine (zzbefore_any _ _ _ _ _).mono ?_
    rintro e w1 ⟨rfl, hb1⟩
    go_wp2_with fail
    refine (zzbefore_any _ _ _ _ _).mono ?_
    rintro e w2 ⟨rfl, hb2⟩
    go_wp2
    go_ret
    exact ⟨rfl, fin hb1 hb2⟩
  · have e1 := bef_gt (b := a1) (d := a3) h
    have e2 := bef_lt (b := a3) (d := a1) h
    have t1 : (a0 == a2) = false := by simp; omega
    go_enter Trym.func3, Trym.ntmps3
    go_wp2_with fail
    refine (zzbefore_any _ _ _ _ _).mono ?_
    rintro e w1 ⟨rfl, hb1⟩
    go_wp2_with fail
    refine (zzbefore_any _ _ _ _ _).mono ?_
    rintro e w2 ⟨rfl, hb2⟩
    go_wp2
    go_ret
    exact ⟨rfl, fin hb1 hb2⟩
  · subst h
    rcases (show a1 < a3 ∨ a3 < a1 ∨ a1 = a3 from by omega) with h | h | h
    · have e1 := bef_eq_lt (a := a0) rfl h
      have e2 := bef_eq_ge (a := a0) rfl (show ¬ a3 < a1 by omega)
      have t1 : (a1 == a3) = false := by simp; omega
      go_enter Trym.func3, Trym.ntmps3
      go_wp2_with fail
      refine (zzbefore_any _ _ _ _ _).mono ?_
      rintro e w1 ⟨rfl, hb1⟩
      go_wp2_with fail
      refine (zzbefore_any _ _ _ _ _).mono ?_
      rintro e w2 ⟨rfl, hb2⟩
      go_wp2
      go_ret
      exact ⟨rfl, fin hb1 hb2⟩
    · have e1 := bef_eq_ge (a := a0) rfl (show ¬ a1 < a3 by omega)
      have e2 := bef_eq_lt (a := a0) rfl h
      have t1 : (a1 == a3) = false := by simp; omega
      go_enter Trym.func3, Trym.ntmps3
      go_wp2_with fail
      refine (zzbefore_any _ _ _ _ _).mono ?_
      rintro e w1 ⟨rfl, hb1⟩
      go_wp2_with fail
      refine (zzbefore_any _ _ _ _ _).mono ?_
      rintro e w2 ⟨rfl, hb2⟩
      go_wp2
      go_ret
      exact ⟨rfl, fin hb1 hb2⟩
    · subst h
      have e1 := bef_eq_ge (a := a0) rfl (show ¬ a1 < a1 by omega)
      go_enter Trym.func3, Trym.ntmps3
      go_wp2_with fail
      refine (zzbefore_any _ _ _ _ _).mono ?_
      rintro e w1 ⟨rfl, hb1⟩
      go_wp2_with fail
      refine (zzbefore_any _ _ _ _ _).mono ?_
      rintro e w2 ⟨rfl, hb2⟩
      go_wp2
      go_ret
      exact ⟨rfl, fin hb1 hb2⟩

/-! ### THE ROW's STEP: WRITTEN OUT: LEAVE IT -/
set_option maxRecDepth 100000 in
theorem lifted (os : Os) (started : os.Started) (H : Type) (enc : TypeId × Value → H) :
    ReturnsInHanded {} Trym.checked os 3 .any (Rows.fnEntryBeforeIsStrictAndPicksTheLaterSpec.pre6 enc Trym.prog Trym.f3 Rows.fnEntryBeforeIsStrictAndPicksTheLaterRow.domain false) (Rows.fnEntryBeforeIsStrictAndPicksTheLaterSpec.post enc Trym.prog Trym.f3 false true false false) := by
  refine returnsInHanded_of_change (C := Trym.checked) own started (by kernel_rfl) Trym.func3
    (ChangeSpec.witness6 (enc := enc) (C := Trym.checked) false ⟨#[], #[.int .u64 0, .int .u64 0, .int .u64 0, .int .u64 0], []⟩ 8 (by kernel_rfl) (by kernel_rfl) (by kernel_rfl) (by kernel_rfl)) ?_
  intro W base args ds gs before hval0 hW hcnd _
  have hval : ∀ (j : Nat) t v, Trym.f3.params[j]? = some t → args[j]? = some v → Value.okWide Trym.prog W .any base t v := hval0
  have hW' := hW
  obtain ⟨p, q, hA0, hV, rfl, hfz, hnd⟩ := hW
  have hA : DataW.TrodAll enc Trym.prog W 0 (fun _ => true) true Trym.f3.params.toList args.toList ds p := hA0
  rw [Trym.params3] at hA hval
  obtain ⟨v0, vs0, d0, ds0, p0, q0, hargs, rfl, rfl, h0, r0⟩ := trodAll_cons hA
  obtain ⟨v1, vs1, d1, ds1, p1, q1, rfl, rfl, rfl, h1, r1⟩ := trodAll_cons r0
  obtain ⟨v2, vs2, d2, ds2, p2, q2, rfl, rfl, rfl, h2, r2⟩ := trodAll_cons r1
  obtain ⟨v3, vs3, d3, ds3, p3, q3, rfl, rfl, rfl, h3, r3⟩ := trodAll_cons r2
  obtain ⟨rfl, rfl, rfl⟩ := trodAll_nil r3
  obtain rfl : args = #[v0, v1, v2, v3] := by cases args; simp_all
  obtain ⟨rfl, rfl⟩ := trodVars_none hV
  obtain ⟨a0, rfl, rfl, rfl, w0⟩ := open_int Trym.underlying22 (hval 0 22 v0 rfl rfl) h0
  obtain ⟨a1, rfl, rfl, rfl, w1⟩ := open_int Trym.underlying22 (hval 1 22 v1 rfl rfl) h1
  obtain ⟨a2, rfl, rfl, rfl, w2⟩ := open_int Trym.underlying22 (hval 2 22 v2 rfl rfl) h2
  obtain ⟨a3, rfl, rfl, rfl, w3⟩ := open_int Trym.underlying22 (hval 3 22 v3 rfl rfl) h3
  clear hA0 hval0
  refine (walk a0 a1 a2 a3 W).mono fun e W' ⟨he, bel⟩ => ?_
  subst he
  exact ⟨_, rfl, _, _, _, [], _, [], hW', trodAll_mk1 (shut_bool Trym.underlying4 _), (trodAll_cons_mk (shut_int Trym.underlying22 w0) (trodAll_cons_mk (shut_int Trym.underlying22 w1) (trodAll_cons_mk (shut_int Trym.underlying22 w2) (trodAll_cons_mk (shut_int Trym.underlying22 w3) trodAll_mk0)))), rfl, bel.frame _, fun h => by cases h⟩

theorem over : Rows.fnEntryBeforeIsStrictAndPicksTheLaterRow.holds Trym.pinned (OpenSpec.ofChange Rows.fnEntryBeforeIsStrictAndPicksTheLaterSpec) :=
  OpenClaim.holds_of_wide 3 Trym.f3 rfl rfl rfl rfl rfl rfl rfl ⟨rfl, rfl, rfl, rfl, rfl⟩ rfl rfl rfl rfl rfl (by kernel_rfl) Trym.func3 (by kernel_rfl)
    (of_decide_eq_true (by kernel_rfl)) (by unfold Func.isWrapper; first | (rw [if_pos (by decide +kernel)]; kernel_rfl) | (rw [if_neg (by decide +kernel)]; exact ⟨rfl, rfl⟩))
    (fun os started H enc _ => lifted os started H enc)

/-- ████ THE STATEMENT ████ -/
theorem proved : Rows.FnEntryBeforeIsStrictAndPicksTheLaterSaid :=
  over
#print axioms proved
end Go.Proofs.Qxb6613818aMods.fnEntryBeforeIsStrictAndPicksTheLater
