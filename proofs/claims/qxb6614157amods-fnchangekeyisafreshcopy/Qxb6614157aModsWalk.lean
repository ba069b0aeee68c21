/- FnChangeKeyIsAFreshCopy (3): the walk -/
import Derived.Test.Qxb6614157aModsKey
namespace Go.Proofs.Qxb6614157aMods
open Go.ChangeShapes Go.WideShapes Go.ChangeAt Go.RowKit

set_option maxRecDepth 100000 in
set_option maxHeartbeats 400000 in
theorem long_walk (a : Option Addr) (n c : Nat) (w : World) (hn : ¬ n ≤ 131072) :
    Calls Trym.prog 3 #[.slice a n c] w fun e w' => e = .returned (.bool true) ∧ Below w.heap.size w w' := by
  by_cases h : 1048576 < n
  · go_enter Trym.func3, Trym.ntmps3
    go_wp2
    go_ret
    exact ⟨rfl, Below.refl _ _⟩
  · go_enter Trym.func3, Trym.ntmps3
    go_wp2
    go_ret
    exact ⟨rfl, Below.refl _ _⟩

/-- Go's ^z, as the walk writes it -/
def nt (z : Int) : Int := bits BinOp.xor IntKind.i64 (if IntKind.i64.signed = true then -1 else 9223372036854775807) z
theorem nt_step (Z : Nat → Int) (k : Nat) : ∀ i, (if i < k + 1 then Value.int .i64 (nt (Z i)) else .int .i64 (Z i)) = if i = k then Value.int .i64 (nt (Z k)) else (if i < k then Value.int .i64 (nt (Z i)) else .int .i64 (Z i)) := by
  intro i
  by_cases e : i = k
  · subst e; simp
  · rw [if_neg e]
    by_cases e1 : i < k
    · rw [if_pos e1, if_pos (by omega)]
    · rw [if_neg e1, if_neg (by omega)]

/-- the cells of a Change -/
def chg (g : Nat) : Nat → Value
  | 0 => .string ⟨#[]⟩
  | 1 => .string ⟨#[]⟩
  | 2 => .string ⟨#[]⟩
  | 3 => .slice none 0 0
  | 4 => .slice none 0 0
  | 5 => .bool false
  | 6 => .pointer (some ⟨g, 0, none⟩)
  | 7 => .slice none 0 0
  | _ => .int .i64 0
theorem chg_row (w : World) (g : Nat) : Row (w.alloc (.cells #[.string ⟨#[]⟩, .string ⟨#[]⟩, .string ⟨#[]⟩, .slice none 0 0, .slice none 0 0, .bool false, .pointer (some ⟨g, 0, none⟩), .slice none 0 0, .int .i64 0] 31)) w.heap.size 9 (chg g) where
  lt := by simp
  cell := fun i hi => by
    rcases (show i = 0 ∨ i = 1 ∨ i = 2 ∨ i = 3 ∨ i = 4 ∨ i = 5 ∨ i = 6 ∨ i = 7 ∨ i = 8 from by omega) with rfl | rfl | rfl | rfl | rfl | rfl | rfl | rfl | rfl <;> simp [go_sem, chg]
  free := fun i => by simp [go_sem]
theorem own_none {B : Nat} {w : World} {a : Option Addr} {n : Nat} {Z : Nat → Int} (h : Own B w a n Z) : a = none → n = 0 := by
  intro e
  obtain ⟨g, _, h1, _⟩ := h
  rcases Nat.eq_zero_or_pos n with h' | h'
  · exact h'
  · rw [h1 h'] at e; cases e

set_option maxRecDepth 100000 in
set_option maxHeartbeats 1000000 in
theorem key_walk (a : Option Addr) (n c : Nat) (Z : Nat → Int) (w : World) (hZ : Ints w a n Z) (h0 : a = none → n = 0) (hn : n ≤ 131072) :
    Calls Trym.prog 3 #[.slice a n c] w fun e w' => e = .returned (.bool true) ∧ Below w.heap.size w w' := by
  have HZ := hide0 hZ
  have H0 := hide0 h0
  clear hZ h0
  have hd : decide ((131072 : Int) < (n : Int)) = false := by simp; omega
  go_enter Trym.func3, Trym.ntmps3
  go_wp2_with fail
  refine (bytes_any _ _ _ _ hn).mono ?_
  rintro e w0 ⟨rfl, rfl⟩
  go_wp2_with fail
  refine (clone_any _ _ _ Z _ HZ.out H0.out hn).mono ?_
  rintro e w1 ⟨ak, ck, rfl, hok, hb1⟩
  have OK := hide0 hok
  have B1 := hide0 hb1
  clear hok hb1
  go_wp2_with fail
  refine (change_any _ _ _ _).mono ?_
  rintro e w2 ⟨g, t, rfl, hg, ht, hb2⟩
  have G2 := hide0 hg
  have T2 := hide0 ht
  have B2 := hide0 hb2
  clear hg ht hb2
  go_wp2_with fail
  have R3 := hide0 (chg_row w2 g)
  have B23 := hide0 (Below.alloc (Below.refl w2.heap.size w2) (Nat.le_refl _) (.cells #[.string ⟨#[]⟩, .string ⟨#[]⟩, .string ⟨#[]⟩, .slice none 0 0, .slice none 0 0, .bool false, .pointer (some ⟨g, 0, none⟩), .slice none 0 0, .int .i64 0] 31))
  have hu3 : w2.heap.size < (w2.alloc (.cells #[.string ⟨#[]⟩, .string ⟨#[]⟩, .string ⟨#[]⟩, .slice none 0 0, .slice none 0 0, .bool false, .pointer (some ⟨g, 0, none⟩), .slice none 0 0, .int .i64 0] 31)).heap.size := by simp
  have U3 := hide0 hu3
  clear hu3 hd
  generalize w2.alloc (.cells #[.string ⟨#[]⟩, .string ⟨#[]⟩, .string ⟨#[]⟩, .slice none 0 0, .slice none 0 0, .bool false, .pointer (some ⟨g, 0, none⟩), .slice none 0 0, .int .i64 0] 31) = w3 at *
  have B3 := hide0 (below_on (below_on B1.out B2.out) B23.out)
  have K3 := hide0 ((OK.out.ints.below B2.out).below B23.out)
  have KN : Hid (ak = none → n = 0) := own_none OK.out
  have G3 := hide0 (cell_later B23.out G2.out)
  have T3 := hide0 (cell_later B23.out T2.out)
  clear G2 T2 B23 B2 B1 OK
  refine (key_any g t ak n ck Z w3 G3.out T3.out K3.out KN.out hn).mono ?_
  rintro e w4 ⟨ar, cr, rfl, ⟨g1, hg1, har, hrow⟩, hb4⟩
  have HG1 := hide0 hg1
  have HAR := hide0 har
  have HROW := hide0 hrow
  have B4 := hide0 hb4
  clear hg1 har hrow hb4
  go_wp2
  go_loopw [6] (fun i wr => ∃ k : Nat, k ≤ n ∧ i = .int .i64 k ∧ (0 < n → Row wr g1 n (fun j => if j < k then .int .i64 (nt (Z j)) else .int .i64 (Z j))) ∧ Below w3.heap.size w3 wr) (fun i _ => n - (intOf i).toNat)
  case atStart => exact ⟨0, by omega, rfl, fun h => by simpa using HROW.out h, B4.out⟩
  case round =>
    obtain ⟨k, hk, rfl, hr, hb⟩ := hrel
    have HR := hide0 hr
    have HB := hide0 hb
    clear hr hb
    by_cases hlt : k < n
    · obtain rfl := HAR.out (by omega)
      obtain ⟨b, off, rfl, hc⟩ := (HZ.out.below (below_on B3.out HB.out)).cells (by omega)
      have d1 := hc k hlt
      have d2 := (HR.out (by omega)).cell k hlt
      have d3 := (HR.out (by omega)).free k
      rw [if_neg (by omega)] at d2
      have bk : (k : Int) < (n : Int) := by omega
      clear hc
      go_wp2
      go_quiet (fail)
      go_wp2
      go_roundw
      case rel => exact ⟨k + 1, by omega, by go_num, fun h => ((HR.out h).below (below_drewN (Below.refl _ _) _)).store hlt (fun i _ => nt_step Z k i), (below_drewN HB.out _).setCell HG1.out _⟩
      case measure => simp [intOf]; omega
    · obtain rfl : k = n := by omega
      have R5 := hide0 (R3.out.below HB.out)
      have f0 := R5.out.cell 0 (by omega)
      have f1 := R5.out.cell 1 (by omega)
      have f2 := R5.out.cell 2 (by omega)
      have f3 := R5.out.cell 3 (by omega)
      have f4 := R5.out.cell 4 (by omega)
      have f5 := R5.out.cell 5 (by omega)
      have f6 := R5.out.cell 6 (by omega)
      have f7 := R5.out.cell 7 (by omega)
      have f8 := R5.out.cell 8 (by omega)
      simp only [chg] at f0 f1 f2 f3 f4 f5 f6 f7 f8
      go_wp2_with fail
      clear f0 f1 f2 f3 f4 f5 f6 f7 f8
      refine (key_any g t ak k ck Z wr (cell_later HB.out G3.out) (cell_later HB.out T3.out) (K3.out.below HB.out) KN.out hn).mono ?_
      rintro e w5 ⟨a2, c2, rfl, ho2, hb5⟩
      have O2 := hide0 ho2
      have B5 := hide0 hb5
      clear ho2 hb5
      go_wp2
      go_loopw [8] (fun i wx => ∃ l : Nat, l ≤ k ∧ i = .int .i64 l ∧ Below w5.heap.size w5 wx) (fun i _ => k - (intOf i).toNat)
      case atStart => exact ⟨0, by omega, rfl, Below.refl _ _⟩
      case round =>
        obtain ⟨l, hl, rfl, hb6⟩ := hrel
        have B6 := hide0 hb6
        clear hb6
        by_cases hlt2 : l < k
        · have hbx := below_on HB.out (below_on B5.out B6.out)
          obtain ⟨b, off, rfl, hc⟩ := (HZ.out.below (below_on B3.out hbx)).cells (by omega)
          have d1 := hc l hlt2
          obtain ⟨bk, ok, rfl, hck⟩ := (K3.out.below hbx).cells (by omega)
          have d2 := hck l hlt2
          obtain ⟨b2, o2, rfl, hc2⟩ := (O2.out.ints.below B6.out).cells (by omega)
          have d3 := hc2 l hlt2
          obtain rfl := HAR.out (by omega)
          have d4 := ((HR.out (by omega)).below (below_on B5.out B6.out)).cell l hlt2
          rw [if_pos hlt2] at d4
          have bl : (l : Int) < (k : Int) := by omega
          clear hc hck hc2 hbx
          unfold nt at d4
          go_wp2
          go_quiet (fail)
          go_wp2
          go_roundw
          case rel => exact ⟨l + 1, by omega, by go_num, below_drewN B6.out _⟩
          case measure => simp [intOf]; omega
        · go_wp2
          go_ret
          exact ⟨rfl, below_on (below_on B3.out HB.out) (below_on B5.out B6.out)⟩
end Go.Proofs.Qxb6614157aMods
