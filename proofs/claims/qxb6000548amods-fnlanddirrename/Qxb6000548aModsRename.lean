/- FnLandDirRename (6): the walk -/
import Derived.Test.Qxb6000548aModsDirPlain
namespace Go.Proofs.Qxb6000548aMods
open Go.ChangeShapes Go.WideShapes Go.ChangeAt Go.RowKit

theorem own_form {w : World} {base : Nat} {e : TypeId} {size : Nat} {v : Value} {n : Nat} {xs : List Value} (h : w.ownsRow base e size v n xs) : ∃ a cp, v = .slice a n cp := by
  rcases h.2 with ⟨h1, h2⟩ | ⟨g, cap, cur, h1, _⟩
  · exact ⟨none, 0, by rw [h1, h2]⟩
  · exact ⟨_, _, h1⟩
theorem own_ge {w : World} {base : Nat} {e : TypeId} {size : Nat} {v : Value} {n : Nat} {xs : List Value} (h : w.ownsRow base e size v n xs) : ∀ k, v.ownBlock = some k → base ≤ k := by
  intro k hk
  rcases h.2 with ⟨h1, _⟩ | ⟨g, cap, cur, h1, h2, _⟩
  · rw [h1] at hk; simp [Value.ownBlock] at hk
  · rw [h1] at hk; simp [Value.ownBlock] at hk; omega

theorem str_eq_true {x y : ByteArray} (h : x = y) : (x.toList == y.toList) = true := by rw [h]; simp
theorem str_eq_false {x y : ByteArray} (h : ¬ x = y) : (x.toList == y.toList) = false := by
  rw [beq_eq_false_iff_ne]
  intro e
  rw [ByteArray.toList_eq, ByteArray.toList_eq] at e
  apply h
  obtain ⟨⟨x⟩⟩ := x
  obtain ⟨⟨y⟩⟩ := y
  simp only at e
  rw [e]
theorem new_yes {SS : List ByteArray} {A : Nat → ByteArray} {m : Nat} {x : ByteArray} (hx : x = A m) (hq : inS (coll A m) x = false) (hb : inS SS x = true) : cnt SS A (m + 1) = cnt SS A m + 1 := by
  subst hx; rw [cnt_new hq, hb]; rfl
theorem new_no {SS : List ByteArray} {A : Nat → ByteArray} {m : Nat} {x : ByteArray} (hx : x = A m) (hq : inS (coll A m) x = false) (hb : inS SS x = false) : cnt SS A (m + 1) = cnt SS A m := by
  subst hx; rw [cnt_new hq, hb]; rfl
theorem old_cnt {SS : List ByteArray} {A : Nat → ByteArray} {m : Nat} {x : ByteArray} (hx : x = A m) (hq : inS (coll A m) x = true) : cnt SS A (m + 1) = cnt SS A m := by
  subst hx; exact cnt_seen hq
theorem old_coll {A : Nat → ByteArray} {m : Nat} {x : ByteArray} (hx : x = A m) (hq : inS (coll A m) x = true) : coll A (m + 1) = coll A m := by
  subst hx; exact coll_seen hq
theorem next_coll {w : World} {b n m : Nat} {A : Nat → ByteArray} {x : ByteArray} (hx : x = A m) (h : SetM boolElem w b n (add (coll A m) x)) : SetM boolElem w b n (coll A (m + 1)) := by
  subst hx; exact h
theorem texts_congr {Z Z' : Nat → ByteArray} {n : Nat} (h : ∀ j, j < n → Z j = Z' j) : texts Z n = texts Z' n := by
  unfold texts
  refine List.map_congr_left fun j hj => ?_
  rw [h j (List.mem_range.1 hj)]
theorem ask_texts (Bf : Nat → ByteArray) (n : Nat) (name frm : ByteArray) : texts Bf n ++ [.string name] ++ [.string frm] = texts (askAt Bf n name frm) (n + 1 + 1) := by
  rw [texts_succ, texts_succ, texts_congr (Z := Bf) (Z' := askAt Bf n name frm) (fun j hj => (if_pos hj).symm)]
  rw [show askAt Bf n name frm n = name from by unfold askAt; rw [if_neg (by omega), if_pos rfl], show askAt Bf n name frm (n + 1) = frm from by unfold askAt; rw [if_neg (by omega), if_neg (by omega)]]
theorem ask_strs {w : World} {B n cp : Nat} {av : Option Addr} {Bf : Nat → ByteArray} {name frm : ByteArray} (h : w.ownsRow B 9 1 (.slice av (n + 1 + 1) cp) (n + 1 + 1) (texts Bf n ++ [.string name, .string frm])) (hB : ∀ j, j < n → (Bf j).size ≤ maxLen) (hn : name.size ≤ maxLen) (hf : frm.size ≤ maxLen) :
    Strs w av (n + 1 + 1) (askAt Bf n name frm) := by
  rw [show texts Bf n ++ [.string name, .string frm] = texts Bf n ++ [.string name] ++ [.string frm] by simp, ask_texts] at h
  refine ⟨fun _ => ?_, fun j hj => ?_⟩
  · rcases h.2 with ⟨_, h2⟩ | ⟨g, cap, cur, h1, _⟩
    · omega
    · simp only [Value.slice.injEq] at h1
      obtain ⟨rfl, _, rfl⟩ := h1
      exact ⟨g, 0, rfl, fun j hj => by rw [Nat.zero_add, h.cellAt j (by omega)]; exact texts_at _ hj⟩
  · unfold askAt
    split
    · exact hB j (by assumption)
    · split
      · exact hn
      · exact hf

set_option maxRecDepth 100000 in
set_option maxHeartbeats 4000000 in
theorem rename_walk (a : Option Addr) (n c : Nat) (name frm : ByteArray) (remove : Bool) (Bf : Nat → ByteArray) (w : World) (hB : Strs w a n Bf) (h0 : a = none → n = 0) (hn9 : n ≤ 9223372036854775807) (hname : name.size ≤ maxLen) (hfrm : frm.size ≤ maxLen) :
    Calls Trym.prog 6 #[.slice a n c, .string name, .string frm, .bool remove] w fun e w' => e = .returned (.bool true) ∧ Below w.heap.size w w' := by
  have HBf := hide0 hB
  have H0 := hide0 h0
  have HN := hide0 hname
  have HF := hide0 hfrm
  clear hB h0 hname hfrm
  obtain ⟨i0, hi, hz0, hz1, hz2⟩ := info_parts Trym.info9
  go_enter Trym.func6, Trym.ntmps6
  go_wp2_with fail
  refine (bytes13_any _ _ _ _ _ _ Bf _ HBf.out hn9).mono ?_
  rintro e w1 ⟨⟨r, rfl⟩, rfl⟩
  cases r
  · go_wp2
    go_ret
    exact ⟨rfl, Below.refl _ _⟩
  go_wp2_with fail
  all_goals try (go_ret; exact ⟨rfl, Below.refl _ _⟩)
  have hn : n ≤ 65536 := by omega
  go_loop [9, 10] (fun x i => ∃ (k : Nat) (t : Int), k ≤ n ∧ i = .int .i64 k ∧ x = .int .i64 t) (fun _ i => n - (intOf i).toNat)
  case atStart => exact ⟨0, _, by omega, rfl, rfl⟩
  case round =>
    obtain ⟨k, t, hk, rfl, rfl⟩ := hrel
    by_cases hlt : k < n
    · obtain ⟨b, off, rfl, hc⟩ := HBf.out.cells (by omega)
      have c1 := hc k hlt
      clear hc
      go_wp2
      · go_ret
        exact ⟨rfl, Below.refl _ _⟩
      · go_round
        case rel => exact ⟨k + 1, _, by omega, by go_num, rfl⟩
        case measure => simp [intOf]; omega
    · go_wp2_with fail
      refine (cloneS_any _ _ _ Bf _ HBf.out H0.out hn).mono ?_
      rintro e w2 ⟨a2, rfl, hs2, hb2⟩
      have S2 := hide0 hs2
      have B2 := hide0 hb2
      clear hs2 hb2 HBf H0
      go_wp2_with (at_make; refine wpList_make_own _ rfl _ _ 29 rfl w2.heap.size 9 i0 (.string ByteArray.empty) 1 Trym.underlying29 hi hz0 hz1 _ _ _ (n + 2) rfl rfl (by omega) ?b2 ?b3 ?b4 ?_)
      case b2 => rw [hz2]; omega
      case b3 => unfold maxLen; omega
      case b4 => exact Nat.le_refl _
      intro w3 hown hgrow
      have O3 := hide0 hown
      have B3 : Hid (Below w2.heap.size w2 w3) := (Below.refl _ _).grown hgrow (Nat.le_refl _) (fun j hj => by cases hj)
      clear hown hgrow
      go_wp2
      go_loopw [11, 12] (fun v i wr => ∃ l : Nat, l ≤ n ∧ i = .int .i64 l ∧ wr.ownsRow w2.heap.size 9 1 v l (texts Bf l) ∧ Below w2.heap.size w2 wr) (fun _ i _ => n - (intOf i).toNat)
      case atStart => exact ⟨0, by omega, rfl, O3.out, B3.out⟩
      case round =>
        obtain ⟨l, hl, rfl, hown, hb⟩ := hrel
        obtain ⟨av, cv, rfl⟩ := own_form hown
        have O4 := hide0 hown
        have B4 := hide0 hb
        clear hown hb
        by_cases hlt2 : l < n
        · obtain ⟨b, off, rfl, hc⟩ := (S2.out.below B4.out).cells (by omega)
          have d1 := hc l hlt2
          clear hc
          go_wp2_with (at_builtin; refine wpList_append_own _ rfl _ _ 29 rfl w2.heap.size 9 i0 (.string ByteArray.empty) 1 16 Trym.underlying29 hi hz0 hz1 hz2 rfl (by decide) (.slice av l cv) l (texts Bf l) rfl (O4.out.alloc _) ⟨wr.heap.size, 0, none⟩ 1 1 [.string (Bf l)] rfl rfl (cell_one_new _ _ _) ?c2 ?c3 ?c4 ?c5 ?_)
          case c2 => intro u hu; simp at hu; subst hu; rfl
          case c3 => unfold maxLen; omega
          case c4 => omega
          case c5 => have := B4.out.size; simp; omega
          intro v' w5 hown' hgrow' _
          rw [← texts_succ] at hown'
          have O5 := hide0 hown'
          have B5 : Hid (Below w2.heap.size w2 w5) := (B4.out.alloc B4.out.size _).grown hgrow' (by have := B4.out.size; simp; omega) (own_ge O4.out)
          clear hown' hgrow'
          go_wp2
          go_roundw
          case rel => exact ⟨l + 1, by omega, by go_num, O5.out, B5.out⟩
          case measure => simp [intOf]; omega
        · obtain rfl : l = n := by omega
          go_wp2_with (at_builtin; refine wpList_append_own _ rfl _ _ 29 rfl w2.heap.size 9 i0 (.string ByteArray.empty) 1 16 Trym.underlying29 hi hz0 hz1 hz2 rfl (by decide) (.slice av l cv) l (texts Bf l) rfl (O4.out.alloc _) ⟨wr.heap.size, 0, none⟩ 1 1 [.string name] rfl rfl (cell_one_new _ _ _) ?d2 ?d3 ?d4 ?d5 ?_)
          case d2 => intro u hu; simp at hu; subst hu; rfl
          case d3 => unfold maxLen; omega
          case d4 => omega
          case d5 => have := B4.out.size; simp; omega
          intro v' w5 hown' hgrow' _
          obtain ⟨av5, cv5, hv5⟩ := own_form hown'
          subst hv5
          have O5 := hide0 hown'
          have B5 : Hid (Below w2.heap.size w2 w5) := (B4.out.alloc B4.out.size _).grown hgrow' (by have := B4.out.size; simp; omega) (own_ge O4.out)
          clear hown' hgrow' O4 B4
          go_wp2_with (at_builtin; refine wpList_append_own _ rfl _ _ 29 rfl w2.heap.size 9 i0 (.string ByteArray.empty) 1 16 Trym.underlying29 hi hz0 hz1 hz2 rfl (by decide) (.slice av5 (l + 1) cv5) (l + 1) (texts Bf l ++ [.string name]) rfl (O5.out.alloc _) ⟨w5.heap.size, 0, none⟩ 1 1 [.string frm] rfl rfl (cell_one_new _ _ _) ?e2 ?e3 ?e4 ?e5 ?_)
          case e2 => intro u hu; simp at hu; subst hu; rfl
          case e3 => unfold maxLen; omega
          case e4 => omega
          case e5 => have := B5.out.size; simp; omega
          intro v6 w6 hown' hgrow' _
          obtain ⟨av6, cv6, hv6⟩ := own_form hown'
          subst hv6
          have O6 := hide0 hown'
          have B6 : Hid (Below w2.heap.size w2 w6) := (B5.out.alloc B5.out.size _).grown hgrow' (by have := B5.out.size; simp; omega) (own_ge O5.out)
          clear hown' hgrow' O5 B5
          go_wp2_with fail
          have A6 := hide0 (ask_strs O6.out S2.out.sizes HN.out HF.out)
          have S6 := hide0 (S2.out.below B6.out)
          have BF6 := hide0 (below_on B2.out B6.out)
          clear O6 S2 B2 B6 hi hz0 hz1 hz2
          refine (dirhas_any a2 av6 l l (l + 1 + 1) cv6 name frm remove Bf (askAt Bf l name frm) _ S6.out A6.out hn (by omega) HN.out HF.out).mono ?_
          rintro e w7 ⟨g, rfl, hrow, hb7⟩
          have R7 := hide0 hrow
          have A7 := hide0 (A6.out.below hb7)
          have S7 := hide0 (S6.out.below hb7)
          have BF7 := hide0 (below_on BF6.out hb7)
          clear hrow hb7 A6 S6 BF6
          have hmm := @run_makeMap Trym.prog
          go_wp2
          clear hmm
          go_loopw [16] (fun i wx => ∃ k : Nat, k ≤ l ∧ i = .int .i64 k ∧ SetM boolElem wx w7.heap.size k (coll Bf k) ∧ Below w7.heap.size w7 wx) (fun i _ => l - (intOf i).toNat)
          case atStart => exact ⟨0, by omega, rfl, SetM.made _ w7, (Below.refl _ _).alloc (Nat.le_refl _) _⟩
          case round =>
            obtain ⟨k, hk, rfl, hs, hb⟩ := hrel
            have HS := hide0 hs
            have HB := hide0 hb
            clear hs hb
            by_cases hlt3 : k < l
            · obtain ⟨b, off, rfl, hc⟩ := (S7.out.below HB.out).cells (by omega)
              have d1 := hc k hlt3
              obtain ⟨w8, hu, hs8, hg8⟩ := HS.out.put Trym.underlying35 (by unfold maxLen; omega) (S7.out.sizes k hlt3) (v := .bool true) rfl
              have S8 := hide0 hs8
              have B8 : Hid (Below w7.heap.size w7 w8) := HB.out.grown hg8 HB.out.size (fun j hj => by cases hj; exact Nat.le_refl _)
              clear hc hs8 hg8
              go_wp2
              go_roundw
              case rel => exact ⟨k + 1, by omega, by go_num, S8.out, B8.out⟩
              case measure => simp [intOf]; omega
            · obtain rfl : k = l := by omega
              have hmm := @run_makeMap Trym.prog
              go_wp2
              clear hmm
              have HFIN := hide0 (count_all Bf k name frm remove)
              have W1 := hide0 (want_name (coll Bf k) name frm remove)
              have W2 : Hid (¬ frm = name → ¬ frm = ⟨#[]⟩ → inS (landedSet (coll Bf k) name frm remove) frm = false) := fun h1 h2 => want_from (coll Bf k) remove h1 h2
              have W3 : Hid (∀ x, ¬ x = name → (frm = ⟨#[]⟩ ∨ ¬ x = frm) → inS (landedSet (coll Bf k) name frm remove) x = inS (coll Bf k) x) := fun x h1 h2 => want_other (coll Bf k) remove h1 h2
              generalize landedSet (coll Bf k) name frm remove = SS at *
              have A8 := hide0 (A7.out.below HB.out)
              have R8 := hide0 (R7.out.below HB.out)
              have BF8 := hide0 (below_on BF7.out HB.out)
              clear A7 R7 S7 BF7 HB HN HF
              go_loopw [18, 19] (fun ct i wx => ∃ m : Nat, m ≤ k + 1 + 1 ∧ i = .int .i64 m ∧ ct = .int .i64 (cnt SS (askAt Bf k name frm) m) ∧ SetM boolElem wx wr.heap.size m (coll (askAt Bf k name frm) m) ∧ Below wr.heap.size wr wx) (fun _ i _ => k + 1 + 1 - (intOf i).toNat)
              case atStart => exact ⟨0, by omega, rfl, rfl, SetM.made _ wr, (Below.refl _ _).alloc (Nat.le_refl _) _⟩
              case round =>
                obtain ⟨m, hm, rfl, rfl, hsm, hbx⟩ := hrel
                have HSM := hide0 hsm
                have HBX := hide0 hbx
                have hcl := cnt_le SS (askAt Bf k name frm) m
                clear hsm hbx
                by_cases hltm : m < k + 1 + 1
                · obtain ⟨x, hx⟩ : ∃ x, x = askAt Bf k name frm m := ⟨_, rfl⟩
                  have HX := hide0 hx
                  obtain ⟨b, off, rfl, hc⟩ := (A8.out.below HBX.out).cells (by omega)
                  have d1 := hc m hltm
                  have d2 := (R8.out.below HBX.out).cell m hltm
                  have hxs := A8.out.sizes m hltm
                  rw [← hx] at d1 d2 hxs
                  have hw := (HS.out.kept (grown_of_below HBX.out none) (by simp)).get hxs
                  have hs := HSM.out.get hxs
                  obtain ⟨w9, hu, hs9, hg9⟩ := HSM.out.put Trym.underlying35 (by unfold maxLen; omega) hxs (v := .bool true) rfl
                  have S9 := hide0 (next_coll hx hs9)
                  have B9 := hide0 (HBX.out.grown hg9 HBX.out.size (fun j hj => by cases hj; exact Nat.le_refl _))
                  clear hc hs9 hg9 hxs hx
                  by_cases e1 : x = name
                  · have t1 := str_eq_true e1
                    have HBV0 : Hid (inS SS x = !remove) := by rw [e1]; exact W1.out
                    rw [HBV0.out] at d2
                    clear e1 hw
                    cases remove
                    · have HBV : Hid (inS SS x = true) := HBV0.out
                      clear HBV0
                      simp only [Bool.not_false] at d2
                      cases hq : inS (coll (askAt Bf k name frm) m) x
                      · rw [hq] at hs
                        have HC := hide0 (new_yes HX.out hq HBV.out)
                        clear hq
                        go_wp2
                        go_roundw
                        case rel => exact ⟨m + 1, by omega, by go_num, by rw [HC.out]; go_num, S9.out, B9.out⟩
                        case measure => simp [intOf]; omega
                      · rw [hq] at hs
                        have HC := hide0 (old_cnt (SS := SS) HX.out hq)
                        have HCO := hide0 (old_coll HX.out hq)
                        clear hq hu
                        go_wp2
                        go_roundw
                        case rel => exact ⟨m + 1, by omega, by go_num, by rw [HC.out], by rw [HCO.out]; exact HSM.out.mono (by omega), HBX.out⟩
                        case measure => simp [intOf]; omega
                    · have HBV : Hid (inS SS x = false) := HBV0.out
                      clear HBV0
                      simp only [Bool.not_true] at d2
                      cases hq : inS (coll (askAt Bf k name frm) m) x
                      · rw [hq] at hs
                        have HC := hide0 (new_no HX.out hq HBV.out)
                        clear hq
                        go_wp2
                        go_roundw
                        case rel => exact ⟨m + 1, by omega, by go_num, by rw [HC.out], S9.out, B9.out⟩
                        case measure => simp [intOf]; omega
                      · rw [hq] at hs
                        have HC := hide0 (old_cnt (SS := SS) HX.out hq)
                        have HCO := hide0 (old_coll HX.out hq)
                        clear hq hu
                        go_wp2
                        go_roundw
                        case rel => exact ⟨m + 1, by omega, by go_num, by rw [HC.out], by rw [HCO.out]; exact HSM.out.mono (by omega), HBX.out⟩
                        case measure => simp [intOf]; omega
                  · have t1 := str_eq_false e1
                    by_cases e2 : frm = ⟨#[]⟩
                    · have t2 : (!frm.toList.isEmpty) = false := by rw [e2, ByteArray.toList_eq]; rfl
                      have HB0 := hide0 (W3.out x e1 (.inl e2))
                      rw [HB0.out] at d2
                      clear e1 e2
                      cases hp : inS (coll Bf k) x
                      · rw [hp] at d2 hw
                        have HBV : Hid (inS SS x = false) := HB0.out.trans hp
                        clear hp HB0
                        cases hq : inS (coll (askAt Bf k name frm) m) x
                        · rw [hq] at hs
                          have HC := hide0 (new_no HX.out hq HBV.out)
                          clear hq
                          go_wp2
                          go_roundw
                          case rel => exact ⟨m + 1, by omega, by go_num, by rw [HC.out], S9.out, B9.out⟩
                          case measure => simp [intOf]; omega
                        · rw [hq] at hs
                          have HC := hide0 (old_cnt (SS := SS) HX.out hq)
                          have HCO := hide0 (old_coll HX.out hq)
                          clear hq hu
                          go_wp2
                          go_roundw
                          case rel => exact ⟨m + 1, by omega, by go_num, by rw [HC.out], by rw [HCO.out]; exact HSM.out.mono (by omega), HBX.out⟩
                          case measure => simp [intOf]; omega
                      · rw [hp] at d2 hw
                        have HBV : Hid (inS SS x = true) := HB0.out.trans hp
                        clear hp HB0
                        cases hq : inS (coll (askAt Bf k name frm) m) x
                        · rw [hq] at hs
                          have HC := hide0 (new_yes HX.out hq HBV.out)
                          clear hq
                          go_wp2
                          go_roundw
                          case rel => exact ⟨m + 1, by omega, by go_num, by rw [HC.out]; go_num, S9.out, B9.out⟩
                          case measure => simp [intOf]; omega
                        · rw [hq] at hs
                          have HC := hide0 (old_cnt (SS := SS) HX.out hq)
                          have HCO := hide0 (old_coll HX.out hq)
                          clear hq hu
                          go_wp2
                          go_roundw
                          case rel => exact ⟨m + 1, by omega, by go_num, by rw [HC.out], by rw [HCO.out]; exact HSM.out.mono (by omega), HBX.out⟩
                          case measure => simp [intOf]; omega
                    · have t2 := not_empty e2
                      by_cases e3 : x = frm
                      · have t3 := str_eq_true e3
                        have HBV : Hid (inS SS x = false) := by rw [e3]; exact W2.out (fun h => e1 (e3.trans h)) e2
                        rw [HBV.out] at d2
                        clear e1 e2 e3 hw
                        cases hq : inS (coll (askAt Bf k name frm) m) x
                        · rw [hq] at hs
                          have HC := hide0 (new_no HX.out hq HBV.out)
                          clear hq
                          go_wp2
                          go_roundw
                          case rel => exact ⟨m + 1, by omega, by go_num, by rw [HC.out], S9.out, B9.out⟩
                          case measure => simp [intOf]; omega
                        · rw [hq] at hs
                          have HC := hide0 (old_cnt (SS := SS) HX.out hq)
                          have HCO := hide0 (old_coll HX.out hq)
                          clear hq hu
                          go_wp2
                          go_roundw
                          case rel => exact ⟨m + 1, by omega, by go_num, by rw [HC.out], by rw [HCO.out]; exact HSM.out.mono (by omega), HBX.out⟩
                          case measure => simp [intOf]; omega
                      · have t3 := str_eq_false e3
                        have HB0 := hide0 (W3.out x e1 (.inr e3))
                        rw [HB0.out] at d2
                        clear e1 e2 e3
                        cases hp : inS (coll Bf k) x
                        · rw [hp] at d2 hw
                          have HBV : Hid (inS SS x = false) := HB0.out.trans hp
                          clear hp HB0
                          cases hq : inS (coll (askAt Bf k name frm) m) x
                          · rw [hq] at hs
                            have HC := hide0 (new_no HX.out hq HBV.out)
                            clear hq
                            go_wp2
                            go_roundw
                            case rel => exact ⟨m + 1, by omega, by go_num, by rw [HC.out], S9.out, B9.out⟩
                            case measure => simp [intOf]; omega
                          · rw [hq] at hs
                            have HC := hide0 (old_cnt (SS := SS) HX.out hq)
                            have HCO := hide0 (old_coll HX.out hq)
                            clear hq hu
                            go_wp2
                            go_roundw
                            case rel => exact ⟨m + 1, by omega, by go_num, by rw [HC.out], by rw [HCO.out]; exact HSM.out.mono (by omega), HBX.out⟩
                            case measure => simp [intOf]; omega
                        · rw [hp] at d2 hw
                          have HBV : Hid (inS SS x = true) := HB0.out.trans hp
                          clear hp HB0
                          cases hq : inS (coll (askAt Bf k name frm) m) x
                          · rw [hq] at hs
                            have HC := hide0 (new_yes HX.out hq HBV.out)
                            clear hq
                            go_wp2
                            go_roundw
                            case rel => exact ⟨m + 1, by omega, by go_num, by rw [HC.out]; go_num, S9.out, B9.out⟩
                            case measure => simp [intOf]; omega
                          · rw [hq] at hs
                            have HC := hide0 (old_cnt (SS := SS) HX.out hq)
                            have HCO := hide0 (old_coll HX.out hq)
                            clear hq hu
                            go_wp2
                            go_roundw
                            case rel => exact ⟨m + 1, by omega, by go_num, by rw [HC.out], by rw [HCO.out]; exact HSM.out.mono (by omega), HBX.out⟩
                            case measure => simp [intOf]; omega
                · obtain rfl : m = k + 1 + 1 := by omega
                  have hfin : ((SS.length : Int) == (cnt SS (askAt Bf k name frm) (k + 1 + 1) : Int)) = true := by rw [beq_iff_eq]; exact congrArg _ HFIN.out
                  go_wp2
                  go_ret
                  exact ⟨rfl, below_on BF8.out HBX.out⟩
end Go.Proofs.Qxb6000548aMods
