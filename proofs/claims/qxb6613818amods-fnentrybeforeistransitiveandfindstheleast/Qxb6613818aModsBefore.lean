/- What 'before' computes, and the contracts of (entry).before (6) and ZZbefore (5). -/
import Derived.Test.Qxb6613818aModsRows
import Derived.WalkKit
import Derived.ProofKit
import Derived.Below
namespace Go.Proofs.Qxb6613818aMods
open Go.ChangeShapes Go.WideShapes Go.ChangeAt Go.RowKit

/-- the plain function: is (a, b) before (c, d)? -/
def bef (a b c d : Int) : Bool := decide (a < c) || (a == c) && decide (b < d)

theorem bef_lt {a b c d : Int} (h : a < c) : bef a b c d = true := by simp [bef, h]
theorem bef_eq_lt {a b c d : Int} (h : a = c) (h' : b < d) : bef a b c d = true := by simp [bef, h, h']
theorem bef_eq_ge {a b c d : Int} (h : a = c) (h' : ¬ b < d) : bef a b c d = false := by
  simp only [bef, h, h', decide_false, Bool.and_false, Bool.or_false, decide_eq_false_iff_not]; omega
theorem bef_gt {a b c d : Int} (h : c < a) : bef a b c d = false := by
  have h1 : ¬ a < c := by omega
  have h2 : ¬ a = c := by omega
  simp [bef, h1, h2]

set_option maxHeartbeats 400000 in
theorem before_any (a b c d : Int) (w : World) :
    Calls Trym.prog 6 #[.agg #[.int .u64 a, .int .u64 b], .agg #[.int .u64 c, .int .u64 d]] w fun e w' => e = .returned (.bool (bef a b c d)) ∧ Below w.heap.size w w' := by
  rcases (show a < c ∨ a = c ∧ b < d ∨ a = c ∧ ¬ b < d ∨ c < a from by omega) with h | ⟨h, h'⟩ | ⟨h, h'⟩ | h
  · rw [bef_lt h]
    go_enter Trym.func6, Trym.ntmps6
    go_wp2
    go_ret
    exact ⟨rfl, ((Below.refl _ _).alloc (Nat.le_refl _) _).alloc (by simp) _⟩
  · rw [bef_eq_lt h h']
    subst h
    have h1 : ¬ a < a := by omega
    go_enter Trym.func6, Trym.ntmps6
    go_wp2
    go_ret
    exact ⟨rfl, ((Below.refl _ _).alloc (Nat.le_refl _) _).alloc (by simp) _⟩
  · rw [bef_eq_ge h h']
    subst h
    have h1 : ¬ a < a := by omega
    go_enter Trym.func6, Trym.ntmps6
    go_wp2
    go_ret
    exact ⟨rfl, ((Below.refl _ _).alloc (Nat.le_refl _) _).alloc (by simp) _⟩
  · rw [bef_gt h]
    have h1 : ¬ a < c := by omega
    have h2 : (a == c) = false := by simp; omega
    go_enter Trym.func6, Trym.ntmps6
    go_wp2
    go_ret
    exact ⟨rfl, ((Below.refl _ _).alloc (Nat.le_refl _) _).alloc (by simp) _⟩

theorem zzbefore_any (a b c d : Int) (w : World) :
    Calls Trym.prog 5 #[.int .u64 a, .int .u64 b, .int .u64 c, .int .u64 d] w fun e w' => e = .returned (.bool (bef a b c d)) ∧ Below w.heap.size w w' := by
  go_enter Trym.func5, Trym.ntmps5
  go_wp2_with (go_at_call 6; refine (before_any a b c d _).mono ?_; rintro e w' ⟨rfl, hb⟩)
  go_ret
  exact ⟨rfl, hb⟩
end Go.Proofs.Qxb6613818aMods
