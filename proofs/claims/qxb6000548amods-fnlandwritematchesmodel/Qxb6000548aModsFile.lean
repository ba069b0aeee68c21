/- ZZLandFile (9) -/
import Derived.Test.Qxb6000548aModsLand
namespace Go.Proofs.Qxb6000548aMods
open Go.ChangeShapes Go.WideShapes Go.ChangeAt Go.RowKit

/-- N bytes are handed back in a row of their own; of what was there the row r alone has turned -/
def Got (r : Option Nat) (w : World) (N : Nat) (Z : Nat → Int) (e : Ending) (w' : World) : Prop := ∃ a' cp r', e = .returned (.slice a' N cp) ∧ Own r' w' a' N Z ∧ w.grownBy w' r

theorem got_frame {w w0 w1 : World} {r : Option Nat} (hb : Below w.heap.size w w0) (h1 : w1.os = w0.os) (h2 : w1.tape = w0.tape) (h3 : w1.output = w0.output) (h4 : w0.heap.size ≤ w1.heap.size) (h5 : ∀ k, k < w0.heap.size → k ≠ w.heap.size → some k ≠ r → w1.heap[k]? = w0.heap[k]?) : w.grownBy w1 r :=
  ⟨h1.trans hb.os, h2.trans hb.tape, h3.trans hb.output, Nat.le_trans hb.size h4, fun k hk hne => (h5 k (Nat.lt_of_lt_of_le hk hb.size) (by omega) hne).trans (hb.block k hk)⟩

set_option maxRecDepth 100000 in
set_option maxHeartbeats 400000 in
theorem file_write (r : Option Nat) (a ap : Option Addr) (n off m cp : Nat) (size : Int) (Z P : Nat → Int) (w : World) (hO : Own r w a n Z) (hP : Bts w ap m P) (hap : ap = none → m = 0) (hn : n ≤ 1048576) (hm : m ≤ 1048576) (hoff : off ≤ 65536) :
    Calls Trym.prog 9 #[.slice a n n, .int .i64 (off : Int), .slice ap m cp, .bool false, .int .i64 size] w (Got r w (max n (off + m)) (written Z P n off m)) := by
  have hb : Below w.heap.size w ((w.alloc (.cells #[.bool false, .slice none 0 0, .slice a n n, .map none, .map none] 39)).alloc (.cells #[.int .u64 0, .pointer (some ⟨w.heap.size, 0, none⟩), .bool false, .int .i64 (off : Int), .slice ap m cp, .bool false, .int .i64 size, .string ⟨#[]⟩, .string ⟨#[]⟩, .pointer none] 42)) := ((Below.refl _ _).alloc (Nat.le_refl _) _).alloc (by simp) _
  have hf : ((w.alloc (.cells #[.bool false, .slice none 0 0, .slice a n n, .map none, .map none] 39)).alloc (.cells #[.int .u64 0, .pointer (some ⟨w.heap.size, 0, none⟩), .bool false, .int .i64 (off : Int), .slice ap m cp, .bool false, .int .i64 size, .string ⟨#[]⟩, .string ⟨#[]⟩, .pointer none] 42)).heap[w.heap.size]? = some (.cells #[.bool false, .slice none 0 0, .slice a n n, .map none, .map none] 39 (0, 0)) := by
    rw [Below.heap_alloc _ _ _ (by simp)]
    exact heap_alloc_new _ _
  have HF := hide0 hf
  have HB := hide0 hb
  have HO := hide0 hO
  have HP := hide0 hP
  clear hf hb hO hP
  go_enter Trym.func9, Trym.ntmps9
  go_wp2_with fail
  refine (land_write w.heap.size r a ap n off m cp size Z P _ HF.out (HO.out.below HB.out) (HP.out.below HB.out) hap hn hm hoff).mono ?_
  rintro e w1 ⟨rfl, a', cp', r', hc, _, ho, h1, h2, h3, h4, h5⟩
  have HO1 := hide0 ho
  have HG : Hid (w.grownBy w1 r) := got_frame HB.out h1 h2 h3 h4 h5
  clear ho h1 h2 h3 h4 h5
  go_wp2
  go_ret
  exact ⟨_, _, _, rfl, HO1.out, HG.out⟩

set_option maxRecDepth 100000 in
set_option maxHeartbeats 400000 in
theorem file_truncate (r : Option Nat) (a : Option Addr) (n size : Nat) (off : Int) (Z : Nat → Int) (w : World) (hO : Own r w a n Z) (hn : n ≤ 1048576) (hs : size ≤ 65536) :
    Calls Trym.prog 9 #[.slice a n n, .int .i64 off, .slice none 0 0, .bool true, .int .i64 (size : Int)] w (Got r w size (grown Z n)) := by
  have hb : Below w.heap.size w ((w.alloc (.cells #[.bool false, .slice none 0 0, .slice a n n, .map none, .map none] 39)).alloc (.cells #[.int .u64 0, .pointer (some ⟨w.heap.size, 0, none⟩), .bool false, .int .i64 off, .slice none 0 0, .bool true, .int .i64 (size : Int), .string ⟨#[]⟩, .string ⟨#[]⟩, .pointer none] 42)) := ((Below.refl _ _).alloc (Nat.le_refl _) _).alloc (by simp) _
  have hf : ((w.alloc (.cells #[.bool false, .slice none 0 0, .slice a n n, .map none, .map none] 39)).alloc (.cells #[.int .u64 0, .pointer (some ⟨w.heap.size, 0, none⟩), .bool false, .int .i64 off, .slice none 0 0, .bool true, .int .i64 (size : Int), .string ⟨#[]⟩, .string ⟨#[]⟩, .pointer none] 42)).heap[w.heap.size]? = some (.cells #[.bool false, .slice none 0 0, .slice a n n, .map none, .map none] 39 (0, 0)) := by
    rw [Below.heap_alloc _ _ _ (by simp)]
    exact heap_alloc_new _ _
  have HF := hide0 hf
  have HB := hide0 hb
  have HO := hide0 hO
  clear hf hb hO 
  go_enter Trym.func9, Trym.ntmps9
  go_wp2_with fail
  refine (land_truncate w.heap.size r a n size off Z _ HF.out (HO.out.below HB.out) hn hs).mono ?_
  rintro e w1 ⟨rfl, a', cp', r', hc, _, ho, h1, h2, h3, h4, h5⟩
  have HO1 := hide0 ho
  have HG : Hid (w.grownBy w1 r) := got_frame HB.out h1 h2 h3 h4 h5
  clear ho h1 h2 h3 h4 h5
  go_wp2
  go_ret
  exact ⟨_, _, _, rfl, HO1.out, HG.out⟩
end Go.Proofs.Qxb6000548aMods
