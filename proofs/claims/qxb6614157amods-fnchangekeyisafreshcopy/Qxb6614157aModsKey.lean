/- ZZchangeWithKey (6), (Change).Key (7) -/
import Derived.Test.Qxb6614157aModsBase
namespace Go.Proofs.Qxb6614157aMods
open Go.ChangeShapes Go.WideShapes Go.ChangeAt Go.RowKit

/-- what ZZchangeWithKey hands back: a Change whose image's table's key is the slice -/
def Changed (w : World) (v : Value) (e : Ending) (w' : World) : Prop :=
  ∃ g t, e = .returned (.agg #[.string ⟨#[]⟩, .string ⟨#[]⟩, .string ⟨#[]⟩, .slice none 0 0, .slice none 0 0, .bool false, .pointer (some ⟨g, 0, none⟩), .slice none 0 0, .int .i64 0]) ∧
    w'.cell? ⟨g, 1, none⟩ = some (.pointer (some ⟨t, 0, none⟩)) ∧ w'.cell? ⟨t, 14, none⟩ = some v ∧ Below w.heap.size w w'

set_option maxRecDepth 100000 in
set_option maxHeartbeats 400000 in
theorem change_any (a : Option Addr) (n c : Nat) (w : World) : Calls Trym.prog 6 #[.slice a n c] w (Changed w (.slice a n c)) := by
  go_enter Trym.func6, Trym.ntmps6
  go_wp2
  refine bodyPost_ret (v := .agg #[.string ⟨#[]⟩, .string ⟨#[]⟩, .string ⟨#[]⟩, .slice none 0 0, .slice none 0 0, .bool false, .pointer (some ⟨w.heap.size + 1 + 1, 0, none⟩), .slice none 0 0, .int .i64 0]) (by simp [results, Trym.results6, go_sem]) rfl ?_
  refine ⟨w.heap.size + 1 + 1, w.heap.size + 1, rfl, by simp [go_sem], by simp [go_sem], ?_⟩
  exact (((Below.refl _ _).alloc (Nat.le_refl _) _).alloc (by simp) _).alloc (by simp; omega) _

set_option maxRecDepth 100000 in
set_option maxHeartbeats 400000 in
theorem key_any (g t : Nat) (a : Option Addr) (n c : Nat) (Z : Nat → Int) (w : World) (hg : w.cell? ⟨g, 1, none⟩ = some (.pointer (some ⟨t, 0, none⟩))) (ht : w.cell? ⟨t, 14, none⟩ = some (.slice a n c)) (hZ : Ints w a n Z) (h0 : a = none → n = 0) (hn : n ≤ 131072) :
    Calls Trym.prog 7 #[.agg #[.string ⟨#[]⟩, .string ⟨#[]⟩, .string ⟨#[]⟩, .slice none 0 0, .slice none 0 0, .bool false, .pointer (some ⟨g, 0, none⟩), .slice none 0 0, .int .i64 0]] w (Copied w n Z) := by
  have hb : Below w.heap.size w (w.alloc (.cells #[.string ⟨#[]⟩, .string ⟨#[]⟩, .string ⟨#[]⟩, .slice none 0 0, .slice none 0 0, .bool false, .pointer (some ⟨g, 0, none⟩), .slice none 0 0, .int .i64 0] 31)) := (Below.refl _ _).alloc (Nat.le_refl _) _
  have g1 := cell_later hb hg
  have t1 := cell_later hb ht
  have HZ := hide0 (hZ.below hb)
  have HB := hide0 hb
  clear hb hg ht hZ
  go_enter Trym.func7, Trym.ntmps7
  go_wp2_with (go_at_call 8; refine (sclone_any _ _ _ Z _ HZ.out h0 hn).mono ?_; rintro e w1 ⟨a', cp, rfl, ho, hb2⟩)
  go_ret
  exact ⟨a', cp, rfl, by obtain ⟨g', h1, h2, h3⟩ := ho; exact ⟨g', Nat.le_trans HB.out.size h1, h2, h3⟩, below_on HB.out hb2⟩
end Go.Proofs.Qxb6614157aMods
