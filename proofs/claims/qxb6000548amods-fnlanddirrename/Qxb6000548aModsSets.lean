/- Maps keyed by strings, as sets -/
import Derived.Test.Qxb6000548aModsRows
import Derived.WalkKit
import Derived.ProofKit
import Derived.Below
import Derived.WalkSpells
import Derived.WalkSmall
import Derived.Maps.OwnSet
import Derived.Maps.Views
import Derived.Maps.RangeWalk
namespace Go.Proofs.Qxb6000548aMods
open Go.ChangeShapes Go.WideShapes Go.ChangeAt Go.RowKit Go.Maps
open Go.WideMaps (keyOf_string_mk)

/-- how a key reads -/
def kl (s : ByteArray) : Lit := .string s.data.toList
theorem kl_inj {s t : ByteArray} (h : ¬ s = t) : kl s ≠ kl t := by
  intro e
  apply h
  obtain ⟨⟨x⟩⟩ := s
  obtain ⟨⟨y⟩⟩ := t
  simp [kl] at e
  rw [e]
theorem kl_key (s : ByteArray) : WideAt.IsKeyLit (kl s) := trivial
def one : DataW Unit := .lit (.bool true)

/-- elements that are pointers: all read alike -/
def ptrElem (v : Value) : Option (DataW Unit × List MemPlace) :=
  match v with
  | .pointer _ => some (one, [])
  | _ => none
theorem ptrElem_mk (a : Option Addr) : ptrElem (.pointer a) = some (one, []) := rfl
/-- elements that are bools -/
def boolElem (v : Value) : Option (DataW Unit × List MemPlace) :=
  match v with
  | .bool b => some (.lit (.bool b), [])
  | _ => none

theorem law9 : Keyed Trym.prog 9 := string_keyed Trym.underlying9

/-- is s one of S? -/
def inS (S : List ByteArray) (s : ByteArray) : Bool := S.any fun t => decide (t = s)
theorem inS_iff {S : List ByteArray} {s : ByteArray} : inS S s = true ↔ s ∈ S := by
  simp only [inS, List.any_eq_true, decide_eq_true_eq]
  exact ⟨fun ⟨t, h, e⟩ => e ▸ h, fun h => ⟨s, h, rfl⟩⟩
theorem inS_no {S : List ByteArray} {s : ByteArray} : inS S s = false ↔ ¬ s ∈ S := by rw [← inS_iff]; simp
theorem inS_eq {S T : List ByteArray} {s : ByteArray} (h : s ∈ S ↔ s ∈ T) : inS S s = inS T s := by rw [Bool.eq_iff_iff, inS_iff, inS_iff]; exact h

/-- block b is a map whose keys are the strings of S, each once -/
def SetM (R : Value → Option (DataW Unit × List MemPlace)) (w : World) (b n : Nat) (S : List ByteArray) : Prop :=
  ∃ D : DataW Unit, w.ownsMap Trym.prog 9 R b n D ∧ (∀ (s : ByteArray) z, D.atKey (kl s) z = if inS S s then one else z) ∧ Maps.size D = S.length ∧ S.Nodup

theorem SetM.made (R : Value → Option (DataW Unit × List MemPlace)) (w : World) : SetM R (w.alloc (.map #[] 0)) w.heap.size 0 [] :=
  ⟨.map [], World.ownsMap_made w _ _ _, fun _ _ => rfl, rfl, List.Pairwise.nil⟩
theorem SetM.kept {R : Value → Option (DataW Unit × List MemPlace)} {w w' : World} {b n : Nat} {S : List ByteArray} (h : SetM R w b n S) {row : Option Nat} (hg : w.grownBy w' row) (hne : some b ≠ row) : SetM R w' b n S := by
  obtain ⟨D, h1, h2⟩ := h
  exact ⟨D, h1.kept hg hne, h2⟩
theorem SetM.lt {R : Value → Option (DataW Unit × List MemPlace)} {w : World} {b n : Nat} {S : List ByteArray} (h : SetM R w b n S) : b < w.heap.size := by
  obtain ⟨D, h1, _⟩ := h
  exact h1.lt
theorem SetM.mono {R : Value → Option (DataW Unit × List MemPlace)} {w : World} {b n n' : Nat} {S : List ByteArray} (h : SetM R w b n S) (hn : n ≤ n') : SetM R w b n' S := by
  obtain ⟨D, h1, h2⟩ := h
  exact ⟨D, h1.mono hn, h2⟩

theorem has_of {D : DataW Unit} {S : List ByteArray} (h : ∀ (s : ByteArray) z, D.atKey (kl s) z = if inS S s then one else z) (s : ByteArray) : Maps.has D (kl s) = inS S s := by
  cases e : inS S s
  · exact has_false_of_atKey fun z => by rw [h, e]; rfl
  · exact has_true_of_atKey (y := one) fun z => by rw [h, e]; rfl

/-- s is put into the set -/
def add (S : List ByteArray) (s : ByteArray) : List ByteArray := if inS S s then S else S ++ [s]
theorem mem_add {S : List ByteArray} {s t : ByteArray} : t ∈ add S s ↔ t ∈ S ∨ t = s := by
  unfold add
  cases e : inS S s
  · simp
  · have := inS_iff.1 e
    simp
    rintro rfl
    exact this
theorem nodup_add {S : List ByteArray} (h : S.Nodup) (s : ByteArray) : (add S s).Nodup := by
  unfold add
  cases e : inS S s
  · exact List.nodup_append.2 ⟨h, by simp, fun a ha b hb => by simp at hb; subst hb; intro e'; subst e'; exact inS_no.1 e ha⟩
  · exact h
/-- s is taken away -/
def rem (S : List ByteArray) (s : ByteArray) : List ByteArray := S.filter fun t => decide (t ≠ s)
theorem mem_rem {S : List ByteArray} {s t : ByteArray} : t ∈ rem S s ↔ t ∈ S ∧ t ≠ s := by simp [rem]
theorem nodup_rem {S : List ByteArray} (h : S.Nodup) (s : ByteArray) : (rem S s).Nodup := h.filter _
theorem length_rem {S : List ByteArray} (h : S.Nodup) (s : ByteArray) : (rem S s).length + (if inS S s then 1 else 0) = S.length := by
  induction S with
  | nil => rfl
  | cons a l ih =>
    have h' := List.nodup_cons.1 h
    have ih' := ih h'.2
    by_cases e : a = s
    · subst e
      have e1 : rem (a :: l) a = rem l a := by simp [rem]
      rw [inS_no.2 h'.1] at ih'
      rw [e1, inS_iff.2 (by simp)]
      simp at ih' ⊢
      omega
    · have e1 : rem (a :: l) s = a :: rem l s := by simp [rem, e]
      have e2 : inS (a :: l) s = inS l s := inS_eq (by
        rw [List.mem_cons]
        exact ⟨fun h => h.elim (fun h => absurd h.symm e) id, .inr⟩)
      rw [e1, e2]
      simp only [List.length_cons]
      omega

theorem SetM.put {R : Value → Option (DataW Unit × List MemPlace)} {w : World} {b n t e : Nat} {S : List ByteArray} (h : SetM R w b n S) (ht : Trym.prog.underlying t = some (.map 9 e)) (hn : n < maxLen) {s : ByteArray} (hs : s.size ≤ maxLen) {v : Value} (hv : R v = some (one, [])) :
    ∃ w', (Instr.mapUpdate t (.map (some b)) (.string s) v).run Trym.prog w = .ok () w' ∧ SetM R w' b (n + 1) (add S s) ∧ w.grownBy w' (some b) := by
  obtain ⟨D, h1, h2, h3, h4⟩ := h
  obtain ⟨w', hr, ho, hg⟩ := h1.update law9 ht hn (keyOf_string_mk Trym.underlying9 hs) hv
  refine ⟨w', hr, ⟨_, ho, ?_, ?_, nodup_add h4 s⟩, hg⟩
  · intro x z
    by_cases e : x = s
    · subst e
      rw [inS_iff.2 (mem_add.2 (.inr rfl))]
      exact atKey_put_same h1.isMap (kl_key x) _ _
    · rw [show (D.put (.string s.data.toList) one).atKey (kl x) z = D.atKey (kl x) z from atKey_put_other (kl_inj e) _ _, h2]
      rw [show inS (add S s) x = inS S x from inS_eq (by simp [mem_add, e])]
  · rw [size_put (h1.tidy law9), show Maps.has D (.string s.data.toList) = inS S s from has_of h2 s, h3]
    unfold add
    cases e : inS S s <;> simp

theorem SetM.del {R : Value → Option (DataW Unit × List MemPlace)} {w : World} {b n t e : Nat} {S : List ByteArray} (h : SetM R w b n S) (ht : Trym.prog.underlying t = some (.map 9 e)) {s : ByteArray} (hs : s.size ≤ maxLen) (ty : TypeId) :
    ∃ w', (Builtin.delete_ #[t, 9] ty #[.map (some b), .string s]).run Trym.prog w = .ok (.tuple #[]) w' ∧ SetM R w' b n (rem S s) ∧ w.grownBy w' (some b) := by
  obtain ⟨D, h1, h2, h3, h4⟩ := h
  obtain ⟨w', hr, ho, hg⟩ := h1.drop law9 ht (keyOf_string_mk Trym.underlying9 hs) ty
  refine ⟨w', hr, ⟨_, ho, ?_, ?_, nodup_rem h4 s⟩, hg.grown⟩
  · intro x z
    by_cases e : x = s
    · subst e
      rw [inS_no.2 (by simp [mem_rem])]
      exact atKey_del_same _
    · rw [show (D.del (.string s.data.toList)).atKey (kl x) z = D.atKey (kl x) z from atKey_del_other (kl_inj e) _, h2]
      rw [show inS (rem S s) x = inS S x from inS_eq (by simp [mem_rem, e])]
  · have h5 := size_del (k := .string s.data.toList) (h1.tidy law9)
    rw [show Maps.has D (.string s.data.toList) = inS S s from has_of h2 s, h3] at h5
    have h6 := length_rem h4 s
    cases e : inS S s <;> simp [e] at h5 h6 <;> omega

theorem zero36 (w : World) : (zeroValue 36).run Trym.prog w = .ok (.pointer none) w := by kernel_rfl
theorem zero4 (w : World) : (zeroValue 4).run Trym.prog w = .ok (.bool false) w := by kernel_rfl

/-- '_, ok := m[s]' -/
theorem SetM.ok {w : World} {b n : Nat} {S : List ByteArray} (h : SetM ptrElem w b n S) {s : ByteArray} (hs : s.size ≤ maxLen) :
    ∃ v, (Instr.lookup 37 (.map (some b)) (.string s) true).run Trym.prog w = .ok (.tuple #[v, .bool (inS S s)]) w := by
  obtain ⟨D, h1, h2, _⟩ := h
  obtain ⟨v, ps, hr, _⟩ := h1.look_ok law9 Trym.underlying37 (zero36 w) (ptrElem_mk none) (keyOf_string_mk Trym.underlying9 hs)
  exact ⟨v, by rw [← has_of h2 s]; exact hr⟩

/-- 'm[s]', a map of trues -/
theorem SetM.get {w : World} {b n : Nat} {S : List ByteArray} (h : SetM boolElem w b n S) {s : ByteArray} (hs : s.size ≤ maxLen) :
    (Instr.lookup 35 (.map (some b)) (.string s) false).run Trym.prog w = .ok (.bool (inS S s)) w := by
  obtain ⟨D, h1, h2, _⟩ := h
  obtain ⟨v, ps, hr, hv⟩ := h1.lookup law9 Trym.underlying35 (zero4 w) (zd := .lit (.bool false)) (zp := []) rfl (keyOf_string_mk Trym.underlying9 hs)
  rw [show D.atKey (.string s.data.toList) (.lit (.bool false)) = if inS S s then one else .lit (.bool false) from h2 s _] at hv
  rw [hr]
  cases v with
  | bool x =>
    have e := congrArg (Option.map Prod.fst) hv
    simp only [boolElem, Option.map_some, Option.some.injEq] at e
    cases hm : inS S s
    · rw [hm] at e
      simp at e
      rw [e]
    · rw [hm] at e
      unfold one at e
      simp at e
      rw [e]
  | _ => simp [boolElem] at hv

theorem SetM.len {R : Value → Option (DataW Unit × List MemPlace)} {w : World} {b n t e : Nat} {S : List ByteArray} (h : SetM R w b n S) (ht : Trym.prog.underlying t = some (.map 9 e)) (ty : TypeId) :
    (Builtin.len_ #[t] ty #[.map (some b)]).run Trym.prog w = .ok (.int .i64 (S.length : Int)) w := by
  obtain ⟨D, h1, _, h3, _⟩ := h
  rw [← h3]
  exact h1.len ht ty
end Go.Proofs.Qxb6000548aMods
