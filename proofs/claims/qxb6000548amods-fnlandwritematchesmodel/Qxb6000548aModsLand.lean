/- (change).land (16) on a file; ZZLandFile (9) -/
import Derived.Test.Qxb6000548aModsResize
import Derived.Deep.RegionWith
import Derived.Deep.DrawnRows
import Derived.Deep.AppendLies
namespace Go.Proofs.Qxb6000548aMods
open Go.ChangeShapes Go.WideShapes Go.ChangeAt Go.RowKit
attribute [local go_sem ↓] Go.wp_at_zero Go.wp_at_succ

/-- what land leaves of a file's inode at block f: its stable bytes; of what was there only block f and the row r have turned -/
def Landed (f : Nat) (r : Option Nat) (w : World) (N : Nat) (Z : Nat → Int) (e : Ending) (w' : World) : Prop :=
  e = .returned (.tuple #[]) ∧ ∃ a' cp r', w'.cell? ⟨f, 2, none⟩ = some (.slice a' N cp) ∧ N ≤ cp ∧ Own r' w' a' N Z ∧
    w'.os = w.os ∧ w'.tape = w.tape ∧ w'.output = w.output ∧ w.heap.size ≤ w'.heap.size ∧ ∀ k, k < w.heap.size → k ≠ f → some k ≠ r → w'.heap[k]? = w.heap[k]?

theorem own_ne {r : Option Nat} {w : World} {a : Option Addr} {n f : Nat} {Z : Nat → Int} {C : Array Value} {fr : Nat × Nat} (h : Own r w a n Z) (hF : w.heap[f]? = some (.cells C 39 fr)) : some f ≠ r := by
  intro e
  rcases h with ⟨e0, _⟩ | ⟨g, e0, _, L, h2, _⟩
  · rw [e0] at e; cases e
  · rw [e0] at e
    cases e
    rw [hF] at h2
    cases h2

/-- behind the call: the cell that will be written is there; and what the store leaves -/
theorem landed_of {w w0 w1 : World} {f N : Nat} {r r' : Option Nat} {a' a : Option Addr} {n cp' : Nat} {Z : Nat → Int} (hF : w0.heap[f]? = some (.cells #[.bool false, .slice none 0 0, .slice a n n, .map none, .map none] 39 (0, 0))) (hne : some f ≠ r) (hb : Below w.heap.size w w0)
    (hg : w0.grownBy w1 r) (hcp : N ≤ cp') (ho : Own r' w1 a' N Z) :
    w1.cell? ⟨f, 2, none⟩ = some (.slice a n n) ∧ w1.frozen? ⟨f, 2, none⟩ = false ∧ Landed f r w N Z (.returned (.tuple #[])) (w1.setCell ⟨f, 2, none⟩ (.slice a' N cp')) := by
  have hF1 : w1.heap[f]? = some (.cells #[.bool false, .slice none 0 0, .slice a n n, .map none, .map none] 39 (0, 0)) := (hg.block f (lt_of_heap hF) hne).trans hF
  have c2 := cell_of_row _ f 2 _ 39 (0, 0) hF1
  simp at c2
  refine ⟨c2, frozen_of_row _ f 2 _ 39 hF1, rfl, a', cp', r', ?_, hcp, ?_, hg.os.trans hb.os, hg.tape.trans hb.tape, hg.output.trans hb.output, ?_, ?_⟩
  · exact World.cell?_setCell_same' _ _ _ (by rw [c2]; rfl)
  · rcases ho with h | ⟨g, e0, e, L, h2, h3⟩
    · exact .inl h
    · have hgf : g ≠ f := by
        rintro rfl
        rw [hF1] at h2
        cases h2
      exact .inr ⟨g, e0, e, L, by rw [Below.heap_setCell _ _ _ _ (by exact hgf)]; exact h2, h3⟩
  · have := hg.size; have := hb.size; simp [World.setCell]; omega
  · intro k hk hkf hkr
    rw [Below.heap_setCell _ _ _ _ (by exact hkf), hg.block k (by have := hb.size; omega) hkr]
    exact hb.block k hk

set_option maxRecDepth 100000 in
set_option maxHeartbeats 1000000 in
theorem land_write (f : Nat) (r : Option Nat) (a ap : Option Addr) (n off m cp : Nat) (size : Int) (Z P : Nat → Int) (w : World) (hF : w.heap[f]? = some (.cells #[.bool false, .slice none 0 0, .slice a n n, .map none, .map none] 39 (0, 0)))
    (hO : Own r w a n Z) (hP : Bts w ap m P) (hap : ap = none → m = 0) (hn : n ≤ 1048576) (hm : m ≤ 1048576) (hoff : off ≤ 65536) :
    Calls Trym.prog 16 #[.agg #[.int .u64 0, .pointer (some ⟨f, 0, none⟩), .bool false, .int .i64 (off : Int), .slice ap m cp, .bool false, .int .i64 size, .string ⟨#[]⟩, .string ⟨#[]⟩, .pointer none]] w (Landed f r w (max n (off + m)) (written Z P n off m)) := by
  have hb : Below w.heap.size w (w.alloc (.cells #[.int .u64 0, .pointer (some ⟨f, 0, none⟩), .bool false, .int .i64 (off : Int), .slice ap m cp, .bool false, .int .i64 size, .string ⟨#[]⟩, .string ⟨#[]⟩, .pointer none] 42)) := (Below.refl _ _).alloc (Nat.le_refl _) _
  have HNE := hide0 (own_ne hO hF)
  have HLT := hide0 (lt_of_heap hF)
  have HO := hide0 (hO.below hb)
  have HP := hide0 (hP.below hb)
  have HFB : Hid ((w.alloc (.cells #[.int .u64 0, .pointer (some ⟨f, 0, none⟩), .bool false, .int .i64 (off : Int), .slice ap m cp, .bool false, .int .i64 size, .string ⟨#[]⟩, .string ⟨#[]⟩, .pointer none] 42)).heap[f]? = _) := (hb.block f (lt_of_heap hF)).trans hF
  have f0 := cell_of_row _ f 0 _ 39 (0, 0) HFB.out
  have f2 := cell_of_row _ f 2 _ 39 (0, 0) HFB.out
  have fr2 := frozen_of_row _ f 2 _ 39 HFB.out
  simp at f0 f2
  have HB := hide0 hb
  clear hb hF hO hP
  go_enter Trym.func16, Trym.ntmps16
  go_wp2
  have k3 : (w.alloc (.cells #[.int .u64 0, .pointer (some ⟨f, 0, none⟩), .bool false, .int .i64 (off : Int), .slice ap m cp, .bool false, .int .i64 size, .string ⟨#[]⟩, .string ⟨#[]⟩, .pointer none] 42)).cell? ⟨w.heap.size, 3, none⟩ = some (.int .i64 (off : Int)) := by simp [go_sem]
  have k4 : (w.alloc (.cells #[.int .u64 0, .pointer (some ⟨f, 0, none⟩), .bool false, .int .i64 (off : Int), .slice ap m cp, .bool false, .int .i64 size, .string ⟨#[]⟩, .string ⟨#[]⟩, .pointer none] 42)).cell? ⟨w.heap.size, 4, none⟩ = some (.slice ap m cp) := by simp [go_sem]
  generalize w.alloc (.cells #[.int .u64 0, .pointer (some ⟨f, 0, none⟩), .bool false, .int .i64 (off : Int), .slice ap m cp, .bool false, .int .i64 size, .string ⟨#[]⟩, .string ⟨#[]⟩, .pointer none] 42) = w0 at *
  clear f0
  go_region_with (first | (go_at_call 18; refine (write_any r a ap n off m cp (max n (off + m)) Z P _ (by exact HO.out.below ((Below.refl _ _).drew)) (by exact HP.out.below ((Below.refl _ _).drew)) hap hn hm hoff rfl).mono ?_; rintro e w1 ⟨a', cp', r', rfl, hcp, ho, hr', hgr⟩; have X := hide0 (landed_of (w0 := w0.drew) (w := w) HFB.out HNE.out HB.out.drew hgr hcp ho); have g2 := X.out.1; have gr2 := X.out.2.1; clear ho hgr hr'))
  all_goals
    go_wp2
    go_end0
    exact X.out.2.2

set_option maxRecDepth 100000 in
set_option maxHeartbeats 1000000 in
theorem land_truncate (f : Nat) (r : Option Nat) (a : Option Addr) (n size : Nat) (off : Int) (Z : Nat → Int) (w : World) (hF : w.heap[f]? = some (.cells #[.bool false, .slice none 0 0, .slice a n n, .map none, .map none] 39 (0, 0)))
    (hO : Own r w a n Z) (hn : n ≤ 1048576) (hs : size ≤ 65536) :
    Calls Trym.prog 16 #[.agg #[.int .u64 0, .pointer (some ⟨f, 0, none⟩), .bool false, .int .i64 off, .slice none 0 0, .bool true, .int .i64 (size : Int), .string ⟨#[]⟩, .string ⟨#[]⟩, .pointer none]] w (Landed f r w size (grown Z n)) := by
  have hb : Below w.heap.size w (w.alloc (.cells #[.int .u64 0, .pointer (some ⟨f, 0, none⟩), .bool false, .int .i64 off, .slice none 0 0, .bool true, .int .i64 (size : Int), .string ⟨#[]⟩, .string ⟨#[]⟩, .pointer none] 42)) := (Below.refl _ _).alloc (Nat.le_refl _) _
  have HNE := hide0 (own_ne hO hF)
  have HO := hide0 (hO.below hb)
  have HFB : Hid ((w.alloc (.cells #[.int .u64 0, .pointer (some ⟨f, 0, none⟩), .bool false, .int .i64 off, .slice none 0 0, .bool true, .int .i64 (size : Int), .string ⟨#[]⟩, .string ⟨#[]⟩, .pointer none] 42)).heap[f]? = _) := (hb.block f (lt_of_heap hF)).trans hF
  have f0 := cell_of_row _ f 0 _ 39 (0, 0) HFB.out
  have f2 := cell_of_row _ f 2 _ 39 (0, 0) HFB.out
  have fr2 := frozen_of_row _ f 2 _ 39 HFB.out
  simp at f0 f2
  have HB := hide0 hb
  clear hb hF hO
  go_enter Trym.func16, Trym.ntmps16
  go_wp2
  have k6 : (w.alloc (.cells #[.int .u64 0, .pointer (some ⟨f, 0, none⟩), .bool false, .int .i64 off, .slice none 0 0, .bool true, .int .i64 (size : Int), .string ⟨#[]⟩, .string ⟨#[]⟩, .pointer none] 42)).cell? ⟨w.heap.size, 6, none⟩ = some (.int .i64 (size : Int)) := by simp [go_sem]
  generalize w.alloc (.cells #[.int .u64 0, .pointer (some ⟨f, 0, none⟩), .bool false, .int .i64 off, .slice none 0 0, .bool true, .int .i64 (size : Int), .string ⟨#[]⟩, .string ⟨#[]⟩, .pointer none] 42) = w0 at *
  clear f0
  go_region_with (first | (go_at_call 17; refine (resize_any r a n size Z _ (by exact HO.out.below ((Below.refl _ _).drew)) hn (by omega)).mono ?_; rintro e w1 ⟨a', cp', r', rfl, hcp, ho, hr', hgr⟩; have X := hide0 (landed_of (w0 := w0.drew) (w := w) HFB.out HNE.out HB.out.drew (hgr.but r) hcp ho); have g2 := X.out.1; have gr2 := X.out.2.1; clear ho hgr hr'))
  all_goals
    go_wp2
    go_end0
    exact X.out.2.2
end Go.Proofs.Qxb6000548aMods
