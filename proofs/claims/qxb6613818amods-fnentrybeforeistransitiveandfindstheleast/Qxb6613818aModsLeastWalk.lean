import Derived.Test.Qxb6613818aModsLeast
import Derived.Deep.RegionHeld3
import Derived.Deep.DrawnRows
namespace Go.Proofs.Qxb6613818aMods
open Go.ChangeShapes Go.WideShapes Go.ChangeAt Go.RowKit
attribute [local go_sem ↓] Go.wp_at_zero Go.wp_at_succ

theorem start_mem (a0 a1 a2 a3 a4 a5 : Int) (w : World) (T I : Nat → Int) (L : Nat → Nat → Bool) (hT : ∀ p, T p = if p = 0 then a0 else if p = 1 then a2 else a4) (hI : ∀ p, I p = if p = 0 then a1 else if p = 1 then a3 else a5)
   (hL : ∀ p q, L p q = false) :
   Mem w T I L (((w.alloc (.cells #[.int .u64 a0, .int .u64 a2, .int .u64 a4] 24)).alloc (.cells #[.int .u64 a1, .int .u64 a3, .int .u64 a5] 24)).alloc (.cells #[.bool false, .bool false, .bool false, .bool false, .bool false, .bool false, .bool false, .bool false, .bool false] 26)) where
  below := (((Below.refl _ _).alloc (Nat.le_refl _) _).alloc (by simp) _).alloc (by simp; omega) _
  size := by simp
  ts := by
    intro p hp
    rcases (show p = 0 ∨ p = 1 ∨ p = 2 from by omega) with rfl | rfl | rfl <;> simp [hT, go_sem]
  is := by
    intro p hp
    rcases (show p = 0 ∨ p = 1 ∨ p = 2 from by omega) with rfl | rfl | rfl <;> simp [hI, go_sem]
  lt := by
    intro p q hp hq
    rw [hL]
    rcases (show p = 0 ∨ p = 1 ∨ p = 2 from by omega) with rfl | rfl | rfl <;> rcases (show q = 0 ∨ q = 1 ∨ q = 2 from by omega) with rfl | rfl | rfl <;> simp [go_sem]
  free := by intro o; simp [go_sem]

theorem Mem.same {w w1 : World} {T I : Nat → Int} {L L' : Nat → Nat → Bool} (h : Mem w T I L w1) (hL : ∀ p q, p < 3 → q < 3 → L' p q = L p q) : Mem w T I L' w1 where
  below := h.below
  size := h.size
  ts := h.ts
  is := h.is
  lt := fun p q hp hq => by rw [hL p q hp hq]; exact h.lt p q hp hq
  free := h.free

theorem L_step (T I : Nat → Int) (n m : Nat) : ∀ p q, p < 3 → q < 3 → ((decide (p < n) || decide (p = n) && decide (q < m + 1)) && bef (T p) (I p) (T q) (I q)) = if p = n ∧ q = m then bef (T n) (I n) (T m) (I m) else ((decide (p < n) || decide (p = n) && decide (q < m)) && bef (T p) (I p) (T q) (I q)) := by
  intro p q hp hq
  by_cases e : p = n ∧ q = m
  · obtain ⟨rfl, rfl⟩ := e
    simp
  · rw [if_neg e]
    have e1 : (decide (p < n) || decide (p = n) && decide (q < m + 1)) = (decide (p < n) || decide (p = n) && decide (q < m)) := by
      rw [Bool.eq_iff_iff]; simp; omega
    rw [e1]

theorem hide0 {p : Prop} (h : p) : Hid p := h
theorem bef_tr3 {b : Nat → Nat → Bool} {T I : Nat → Int} (hb : ∀ p q, b p q = bef (T p) (I p) (T q) (I q)) (x y z : Nat) : b x y = false ∨ b y z = false ∨ (b x y = true ∧ b y z = true ∧ b x z = true) := by
  cases h1 : b x y
  · exact .inl rfl
  · cases h2 : b y z
    · exact .inr (.inl rfl)
    · refine .inr (.inr ⟨rfl, rfl, ?_⟩)
      rw [hb] at *
      exact bef_trans h1 h2

theorem least_keep {b : Nat → Nat → Bool} {k x : Nat} (h : ∀ q, q < k → b q x = false) (e : b k x = false) : ∀ q, q < k + 1 → b q x = false := by
  intro q hq
  by_cases e1 : q = k
  · rw [e1]; exact e
  · exact h q (by omega)
theorem least_new {b : Nat → Nat → Bool} {T I : Nat → Int} (hb : ∀ p q, b p q = bef (T p) (I p) (T q) (I q)) {k x : Nat} (h : ∀ q, q < k → b q x = false) (e : b k x = true) : ∀ q, q < k + 1 → b q k = false := by
  intro q hq
  by_cases e1 : q = k
  · rw [e1, hb, bef_irr]
  · have h1 := h q (by omega)
    cases h2 : b q k
    · rfl
    · have h3 : b q x = true := by rw [hb] at *; exact bef_trans h2 e
      rw [h3] at h1; exact h1

theorem min_new {T : Nat → Int} {k : Nat} {mt : Int} (h : ∀ q, q < k → mt ≤ T q) (e : T k < mt) : ∀ q, q < k + 1 → T k ≤ T q := by
  intro q hq
  by_cases e1 : q = k
  · rw [e1]; exact Int.le_refl _
  · have := h q (by omega); omega
theorem min_keep {T : Nat → Int} {k : Nat} {mt : Int} (h : ∀ q, q < k → mt ≤ T q) (e : ¬ T k < mt) : ∀ q, q < k + 1 → mt ≤ T q := by
  intro q hq
  by_cases e1 : q = k
  · rw [e1]; omega
  · exact h q (by omega)

theorem mi_new {T I : Nat → Int} {k : Nat} {mt mi : Int} (h : ∀ q, q < k → T q = mt → mi ≤ I q) (e : I k < mi) : ∀ q, q < k + 1 → T q = mt → I k ≤ I q := by
  intro q hq ht
  by_cases e1 : q = k
  · rw [e1]; exact Int.le_refl _
  · have := h q (by omega) ht; omega
theorem mi_keep {T I : Nat → Int} {k : Nat} {mt mi : Int} (h : ∀ q, q < k → T q = mt → mi ≤ I q) (e : T k = mt → mi ≤ I k) : ∀ q, q < k + 1 → T q = mt → mi ≤ I q := by
  intro q hq ht
  by_cases e1 : q = k
  · rw [e1] at ht ⊢; exact e ht
  · exact h q (by omega) ht
theorem mi_ex {T I : Nat → Int} {k : Nat} {mt mi mx : Int} (h : mi = mx ∨ ∃ q, q < k ∧ T q = mt ∧ mi = I q) : mi = mx ∨ ∃ q, q < k + 1 ∧ T q = mt ∧ mi = I q := by
  rcases h with h | ⟨q, h1, h2, h3⟩
  · exact .inl h
  · exact .inr ⟨q, by omega, h2, h3⟩
theorem least_fin {b : Nat → Nat → Bool} {T I : Nat → Int} (hb : ∀ p q, b p q = bef (T p) (I p) (T q) (I q)) {x : Nat} {mt mi mx : Int} (hmin : ∀ q, q < 3 → b q x = false) (hx : x < 3) (hmt : ∀ q, q < 3 → mt ≤ T q) (hex : ∃ q, q < 3 ∧ mt = T q)
    (hmi : ∀ q, q < 3 → T q = mt → mi ≤ I q) (hex2 : mi = mx ∨ ∃ q, q < 3 ∧ T q = mt ∧ mi = I q) (hmx : 18446744073709551615 = mx) (hwf : ∀ p, I p ≤ 18446744073709551615) : T x = mt ∧ I x = mi := by
  have key : ∀ q, q < 3 → ¬ (T q < T x ∨ T q = T x ∧ I q < I x) := by
    intro q hq h
    have h1 := hmin q hq
    rw [hb, (bef_iff _ _ _ _).2 h] at h1
    simp at h1
  have e1 : T x = mt := by
    obtain ⟨q, h1, h2⟩ := hex
    have := key q h1
    have := hmt x hx
    omega
  refine ⟨e1, ?_⟩
  have h3 := hmi x hx e1
  rcases hex2 with h | ⟨q, h1, h2, h4⟩
  · have := hwf x; omega
  · have := key q h1; omega

theorem Mem.far {w w1 : World} {T I : Nat → Int} {L : Nat → Nat → Bool} (h : Mem w T I L w1) {n m : Nat} (hn : n < 3) (hm : m < 3) (o : Nat) (v : Value) :
    (w1.setCell ⟨w.heap.size + 1 + 1, o, none⟩ v).cell? ⟨w.heap.size, n, none⟩ = some (.int .u64 (T n)) ∧ (w1.setCell ⟨w.heap.size + 1 + 1, o, none⟩ v).cell? ⟨w.heap.size, m, none⟩ = some (.int .u64 (T m)) ∧
    (w1.setCell ⟨w.heap.size + 1 + 1, o, none⟩ v).cell? ⟨w.heap.size + 1, n, none⟩ = some (.int .u64 (I n)) ∧ (w1.setCell ⟨w.heap.size + 1 + 1, o, none⟩ v).cell? ⟨w.heap.size + 1, m, none⟩ = some (.int .u64 (I m)) := by
  refine ⟨?_, ?_, ?_, ?_⟩
  · rw [World.cell?_setCell_other _ _ _ _ (by simp)]; exact h.ts n hn
  · rw [World.cell?_setCell_other _ _ _ _ (by simp)]; exact h.ts m hm
  · rw [World.cell?_setCell_other _ _ _ _ (by simp)]; exact h.is n hn
  · rw [World.cell?_setCell_other _ _ _ _ (by simp)]; exact h.is m hm

set_option maxRecDepth 100000 in
set_option maxHeartbeats 800000 in
theorem least_walk (a0 a1 a2 a3 a4 a5 : Int) (w : World) (T I : Nat → Int) (hwf : ∀ p, I p ≤ 18446744073709551615) (hT : ∀ p, T p = if p = 0 then a0 else if p = 1 then a2 else a4) (hI : ∀ p, I p = if p = 0 then a1 else if p = 1 then a3 else a5) :
    Calls Trym.prog 4 #[.int .u64 a0, .int .u64 a1, .int .u64 a2, .int .u64 a3, .int .u64 a4, .int .u64 a5] w fun e w' => e = .returned (.bool true) ∧ Below w.heap.size w w' := by
  have HS : Hid (Mem w T I (fun p q => decide (p < 0) && bef (T p) (I p) (T q) (I q)) (((w.alloc (.cells #[.int .u64 a0, .int .u64 a2, .int .u64 a4] 24)).alloc (.cells #[.int .u64 a1, .int .u64 a3, .int .u64 a5] 24)).alloc (.cells #[.bool false, .bool false, .bool false, .bool false, .bool false, .bool false, .bool false, .bool false, .bool false] 26))) :=
    start_mem a0 a1 a2 a3 a4 a5 w T I _ hT hI (by intros; simp)
  have HWF := hide0 hwf
  clear hT hI hwf
  go_enter Trym.func4, Trym.ntmps4
  go_wp2
  go_loopw [16] (fun i wr => ∃ n : Nat, n ≤ 3 ∧ i = .int .i64 n ∧ Mem w T I (fun p q => decide (p < n) && bef (T p) (I p) (T q) (I q)) wr) (fun i _ => 3 - (intOf i).toNat)
  case atStart => exact ⟨0, by omega, rfl, HS.out⟩
  case round =>
    obtain ⟨n, hn, rfl, hm0⟩ := hrel
    have hm : Hid (Mem w T I _ wr) := hm0
    clear hm0 HS
    by_cases hlt : n < 3
    · have hd : decide ((n : Int) < 3) = true := by simp; omega
      go_wp2
      go_loopw [17] (fun j wr => ∃ m : Nat, m ≤ 3 ∧ j = .int .i64 m ∧ Mem w T I (fun p q => (decide (p < n) || decide (p = n) && decide (q < m)) && bef (T p) (I p) (T q) (I q)) wr) (fun j _ => 3 - (intOf j).toNat)
      case atStart => exact ⟨0, by omega, rfl, by simpa using hm.out⟩
      case round =>
        obtain ⟨m, hmm, rfl, hm1⟩ := hrel
        have hm2 : Hid (Mem w T I _ wr) := hm1
        clear hm hd
        by_cases hlt2 : m < 3
        · have t1 := hm1.ts n hlt
          have t2 := hm1.ts m hlt2
          have i1 := hm1.is n hlt
          have i2 := hm1.is m hlt2
          have bn : (n : Int) < 3 := by omega
          clear hm1
          go_wp2
          go_region_held3 (fun w' => w'.cell? ⟨w.heap.size, n, none⟩ = some (.int .u64 (T n)) ∧ w'.cell? ⟨w.heap.size, m, none⟩ = some (.int .u64 (T m)) ∧ w'.cell? ⟨w.heap.size + 1, n, none⟩ = some (.int .u64 (I n)) ∧ w'.cell? ⟨w.heap.size + 1, m, none⟩ = some (.int .u64 (I m)))
            (first | exact Mem.far hm3 hlt hlt2 _ _ | exact ⟨hm3.ts n hlt, hm3.ts m hlt2, hm3.is n hlt, hm3.is m hlt2⟩ | go_keep)
            (first | (go_at_call 5; refine (zzbefore_any _ _ _ _ _).mono ?_; rintro e w1 ⟨rfl, hb⟩; have hm3 := Mem.call (Mem.drew hm2.out) hb; have hc3 := hm3.lt n m hlt hlt2; have hf3 := hm3.free (n * 3 + m)))
          go_wp2
          have R : ∃ m1 : Nat, m1 ≤ 3 ∧ Value.int .i64 ((m : Int) + 1) = Value.int .i64 (m1 : Int) ∧ Mem w T I (fun p q => (decide (p < n) || decide (p = n) && decide (q < m1)) && bef (T p) (I p) (T q) (I q)) (w1.setCell ⟨w.heap.size + 1 + 1, n * 3 + m, none⟩ (.bool (bef (T n) (I n) (T m) (I m)))) :=
            ⟨m + 1, by omega, by go_num, Mem.store hm3 hlt hlt2 (L_step T I n m)⟩
          go_roundw
          case rel => first | exact R | ((repeat apply Exists.intro); exact ⟨R, rfl⟩)
          case measure => simp [intOf]; omega
        · clear hm1
          go_wp2
          go_roundw
          case rel =>
            refine ⟨n + 1, by omega, by go_num, ?_⟩
            have h3 : m = 3 := by omega
            subst h3
            have := hm2.out
            refine Mem.same this ?_
            intro p q hp hq
            have e1 : (decide (p < n + 1)) = (decide (p < n) || decide (p = n) && decide (q < 3)) := by
              rw [Bool.eq_iff_iff]; simp; omega
            rw [e1]
          case measure => simp [intOf]; omega
    · have h3 : n = 3 := by omega
      subst h3
      have hbel := hide0 hm.out.below
      obtain ⟨b, hb⟩ : ∃ b : Nat → Nat → Bool, ∀ p q, b p q = bef (T p) (I p) (T q) (I q) := ⟨fun p q => bef (T p) (I p) (T q) (I q), fun _ _ => rfl⟩
      have HL : Hid (∀ p q, p < 3 → q < 3 → wr.cell? ⟨w.heap.size + 1 + 1, p * 3 + q, none⟩ = some (.bool (b p q))) := by
        intro p q hp hq
        rw [hm.out.lt p q hp hq, hb]
        simp [hp]
      have HT : Hid (∀ p, p < 3 → wr.cell? ⟨w.heap.size, p, none⟩ = some (.int .u64 (T p))) := hm.out.ts
      have HI : Hid (∀ p, p < 3 → wr.cell? ⟨w.heap.size + 1, p, none⟩ = some (.int .u64 (I p))) := hm.out.is
      have HB := hide0 hb
      clear hm hb
      go_wp2
      go_loop [18] (fun i => ∃ n : Nat, n ≤ 3 ∧ i = .int .i64 n) (fun i => 3 - (intOf i).toNat)
      case atStart => exact ⟨0, by omega, rfl⟩
      case round =>
        obtain ⟨n, hn, rfl⟩ := hrel
        by_cases hlt : n < 3
        · have c1 : wr.cell? ⟨w.heap.size + 1 + 1, n * 3 + n, none⟩ = some (.bool false) := by rw [HL.out n n hlt hlt, HB.out, bef_irr]
          go_wp2
          go_round
          case rel => exact ⟨n + 1, by omega, by go_num⟩
          case measure => simp [intOf]; omega
        · go_wp2
          go_loop [19] (fun i => ∃ n : Nat, n ≤ 3 ∧ i = .int .i64 n) (fun i => 3 - (intOf i).toNat)
          case atStart => exact ⟨0, by omega, rfl⟩
          case round =>
            obtain ⟨x, hx, rfl⟩ := hrel
            by_cases hltx : x < 3
            · go_wp2
              go_loop [20] (fun i => ∃ n : Nat, n ≤ 3 ∧ i = .int .i64 n) (fun i => 3 - (intOf i).toNat)
              case atStart => exact ⟨0, by omega, rfl⟩
              case round =>
                obtain ⟨y, hy, rfl⟩ := hrel
                by_cases hlty : y < 3
                · go_wp2
                  go_loop [21] (fun i => ∃ n : Nat, n ≤ 3 ∧ i = .int .i64 n) (fun i => 3 - (intOf i).toNat)
                  case atStart => exact ⟨0, by omega, rfl⟩
                  case round =>
                    obtain ⟨z, hz, rfl⟩ := hrel
                    by_cases hltz : z < 3
                    · have c1 := HL.out x y hltx hlty
                      have c2 := HL.out y z hlty hltz
                      have c3 := HL.out x z hltx hltz
                      have tr := bef_tr3 HB.out x y z
                      rcases tr with e1 | e1 | ⟨e1, e2, e3⟩
                      · rw [e1] at c1
                        go_wp2
                        go_round
                        case rel => exact ⟨z + 1, by omega, by go_num⟩
                        case measure => simp [intOf]; omega
                      · rw [e1] at c2
                        cases e2 : b x y <;> rw [e2] at c1
                        all_goals
                          go_wp2
                          go_round
                          case rel => exact ⟨z + 1, by omega, by go_num⟩
                          case measure => simp [intOf]; omega
                      · rw [e1] at c1
                        rw [e2] at c2
                        rw [e3] at c3
                        go_wp2
                        go_round
                        case rel => exact ⟨z + 1, by omega, by go_num⟩
                        case measure => simp [intOf]; omega
                    · go_wp2
                      go_round
                      case rel => exact ⟨y + 1, by omega, by go_num⟩
                      case measure => simp [intOf]; omega
                · go_wp2
                  go_round
                  case rel => exact ⟨x + 1, by omega, by go_num⟩
                  case measure => simp [intOf]; omega
            · go_wp2
              clear hx hltx hlt hn
              go_loop [22, 23] (fun l i => ∃ k x : Nat, 1 ≤ k ∧ k ≤ 3 ∧ x < k ∧ i = .int .i64 k ∧ l = .int .i64 x ∧ ∀ q, q < k → b q x = false) (fun _ i => 3 - (intOf i).toNat)
              case atStart => exact ⟨1, 0, by omega, by omega, by omega, rfl, rfl, by intro q hq; rw [show q = 0 by omega, HB.out, bef_irr]⟩
              case round =>
                obtain ⟨k, x, hk1, hk, hxk, rfl, rfl, hmin⟩ := hrel
                have HM := hide0 hmin
                clear hmin
                by_cases hlt : k < 3
                · have c1 := HL.out k x hlt (by omega)
                  cases e1 : b k x
                  · rw [e1] at c1
                    have E1 := hide0 e1
                    clear e1
                    go_wp2
                    go_round
                    case rel => exact ⟨k + 1, x, by omega, by omega, by omega, by go_num, rfl, least_keep HM.out E1.out⟩
                    case measure => simp [intOf]; omega
                  · rw [e1] at c1
                    have E1 := hide0 e1
                    clear e1
                    go_wp2
                    go_round
                    case rel => exact ⟨k + 1, k, by omega, by omega, by omega, by go_num, rfl, least_new HB.out HM.out E1.out⟩
                    case measure => simp [intOf]; omega
                · have hk3 : k = 3 := by omega
                  subst hk3
                  have d0 := HT.out 0 (by omega)
                  go_wp2
                  clear d0
                  go_loop [24, 25] (fun l i => ∃ (k : Nat) (mt : Int), 1 ≤ k ∧ k ≤ 3 ∧ i = .int .i64 k ∧ l = .int .u64 mt ∧ (∀ q, q < k → mt ≤ T q) ∧ ∃ q, q < k ∧ mt = T q) (fun _ i => 3 - (intOf i).toNat)
                  case atStart => exact ⟨1, T 0, by omega, by omega, rfl, rfl, by intro q hq; rw [show q = 0 by omega]; exact Int.le_refl _, 0, by omega, rfl⟩
                  case round =>
                    obtain ⟨k, mt, hk1, hk, rfl, rfl, hmt, hex⟩ := hrel
                    have HMT := hide0 hmt
                    have HEX := hide0 hex
                    clear hmt hex
                    by_cases hlt : k < 3
                    · have c1 := HT.out k hlt
                      by_cases e1 : T k < mt
                      · go_wp2
                        go_round
                        case rel => exact ⟨k + 1, T k, by omega, by omega, by go_num, rfl, min_new HMT.out e1, k, by omega, rfl⟩
                        case measure => simp [intOf]; omega
                      · go_wp2
                        go_round
                        case rel => exact ⟨k + 1, mt, by omega, by omega, by go_num, rfl, min_keep HMT.out e1, by obtain ⟨q, h1, h2⟩ := HEX.out; exact ⟨q, by omega, h2⟩⟩
                        case measure => simp [intOf]; omega
                    · have hk3 : k = 3 := by omega
                      subst hk3
                      go_wp2
                      generalize hmx : (18446744073709551615 : Int) = mx
                      have HMX := hide0 hmx
                      clear hmx
                      go_loop [26, 27] (fun l i => ∃ (k : Nat) (mi : Int), k ≤ 3 ∧ i = .int .i64 k ∧ l = .int .u64 mi ∧ (∀ q, q < k → T q = mt → mi ≤ I q) ∧ (mi = mx ∨ ∃ q, q < k ∧ T q = mt ∧ mi = I q)) (fun _ i => 3 - (intOf i).toNat)
                      case atStart => exact ⟨0, mx, by omega, rfl, rfl, fun q hq => absurd hq (by omega), .inl rfl⟩
                      case round =>
                        obtain ⟨k, mi, hk, rfl, rfl, hmi, hex2⟩ := hrel
                        have HMI := hide0 hmi
                        have HEX2 := hide0 hex2
                        clear hmi hex2
                        by_cases hlt : k < 3
                        · have c1 := HT.out k hlt
                          have c2 := HI.out k hlt
                          by_cases e1 : T k = mt
                          · have E1 := hide0 e1
                            have e1b : (T k == mt) = true := by simp [e1]
                            clear e1
                            by_cases e2 : I k < mi
                            · go_wp2
                              go_round
                              case rel => exact ⟨k + 1, I k, by omega, by go_num, rfl, mi_new HMI.out e2, .inr ⟨k, by omega, E1.out, rfl⟩⟩
                              case measure => simp [intOf]; omega
                            · go_wp2
                              go_round
                              case rel => exact ⟨k + 1, mi, by omega, by go_num, rfl, mi_keep HMI.out (fun _ => by omega), mi_ex HEX2.out⟩
                              case measure => simp [intOf]; omega
                          · have E1 := hide0 e1
                            have e1b : (T k == mt) = false := by simp [e1]
                            clear e1
                            go_wp2
                            go_round
                            case rel => exact ⟨k + 1, mi, by omega, by go_num, rfl, mi_keep HMI.out (fun h => absurd h E1.out), mi_ex HEX2.out⟩
                            case measure => simp [intOf]; omega
                        · have hk3 : k = 3 := by omega
                          subst hk3
                          have fin := least_fin HB.out HM.out hxk HMT.out HEX.out HMI.out HEX2.out HMX.out HWF.out
                          have g1 : (T x != mt) = false := by simp [fin.1]
                          have g2 : (I x != mi) = false := by simp [fin.2]
                          have c1 := HT.out x hxk
                          have c2 := HI.out x hxk
                          clear fin
                          go_wp2
                          go_loop [28] (fun i => ∃ k : Nat, k ≤ 3 ∧ i = .int .i64 k) (fun i => 3 - (intOf i).toNat)
                          case atStart => exact ⟨0, by omega, rfl⟩
                          case round =>
                            obtain ⟨k, hk, rfl⟩ := hrel
                            clear c1 c2 g1 g2
                            by_cases hlt : k < 3
                            · have c1 := HL.out k x hlt hxk
                              rw [HM.out k hlt] at c1
                              go_wp2
                              go_round
                              case rel => exact ⟨k + 1, by omega, by go_num⟩
                              case measure => simp [intOf]; omega
                            · go_wp2
                              go_ret
                              exact ⟨rfl, hbel.out⟩
end Go.Proofs.Qxb6613818aMods
