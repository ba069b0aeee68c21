/- FnLandDirRename: the plain facts on sets; zzBytes (13), zzCloneStrings (14) -/
import Derived.Test.Qxb6000548aModsDirHas
namespace Go.Proofs.Qxb6000548aMods
open Go.ChangeShapes Go.WideShapes Go.ChangeAt Go.RowKit

theorem mem_coll {S : Nat → ByteArray} {x : ByteArray} {k : Nat} : x ∈ coll S k ↔ ∃ j, j < k ∧ S j = x := by
  induction k with
  | zero =>
    constructor
    · intro h
      cases h
    · rintro ⟨j, h, _⟩
      omega
  | succ k ih =>
    show x ∈ add (coll S k) (S k) ↔ _
    rw [mem_add, ih]
    constructor
    · rintro (⟨j, h, e⟩ | e)
      · exact ⟨j, by omega, e⟩
      · exact ⟨k, by omega, e.symm⟩
    · rintro ⟨j, h, e⟩
      by_cases hj : j = k
      · subst hj; exact .inr e.symm
      · exact .inl ⟨j, by omega, e⟩
theorem nodup_coll (S : Nat → ByteArray) (k : Nat) : (coll S k).Nodup := by
  induction k with
  | zero => exact List.Pairwise.nil
  | succ k ih => exact nodup_add ih _
theorem nodup_landed {S : List ByteArray} (h : S.Nodup) (name frm : ByteArray) (remove : Bool) : (landedSet S name frm remove).Nodup := by
  unfold landedSet
  by_cases e : frm = ⟨#[]⟩
  · cases remove
    · simpa [e] using nodup_add h name
    · simpa [e] using nodup_rem h name
  · cases remove
    · simpa [e] using nodup_add (nodup_rem h frm) name
    · simpa [e] using nodup_rem (nodup_rem h frm) name

theorem want_name (S : List ByteArray) (name frm : ByteArray) (remove : Bool) : inS (landedSet S name frm remove) name = !remove := by
  unfold landedSet
  cases remove
  · simp only [Bool.false_eq_true, if_false, Bool.not_false]
    exact inS_iff.2 (mem_add.2 (.inr rfl))
  · simp only [if_true, Bool.not_true]
    exact inS_no.2 fun h => (mem_rem.1 h).2 rfl
theorem want_from (S : List ByteArray) {name frm : ByteArray} (remove : Bool) (h1 : ¬ frm = name) (h2 : ¬ frm = ⟨#[]⟩) : inS (landedSet S name frm remove) frm = false := by
  unfold landedSet
  rw [if_neg h2]
  refine inS_no.2 fun h => ?_
  cases remove
  · rcases mem_add.1 h with h | h
    · exact (mem_rem.1 h).2 rfl
    · exact h1 h
  · exact (mem_rem.1 (mem_rem.1 h).1).2 rfl
theorem want_other (S : List ByteArray) {name frm x : ByteArray} (remove : Bool) (h1 : ¬ x = name) (h2 : frm = ⟨#[]⟩ ∨ ¬ x = frm) : inS (landedSet S name frm remove) x = inS S x := by
  apply inS_eq
  unfold landedSet
  by_cases e : frm = ⟨#[]⟩
  · cases remove <;> simp [e, mem_add, mem_rem, h1]
  · have h3 : ¬ x = frm := h2.elim (fun h => absurd h e) id
    cases remove <;> simp [e, mem_add, mem_rem, h1, h3]
theorem landed_sub {S : List ByteArray} {name frm x : ByteArray} {remove : Bool} (h : x ∈ landedSet S name frm remove) : x ∈ S ∨ x = name := by
  unfold landedSet at h
  by_cases e : frm = ⟨#[]⟩
  · cases remove
    · simp [e, mem_add] at h; exact h
    · simp [e, mem_rem] at h; exact .inl h.1
  · cases remove
    · simp [e, mem_add, mem_rem] at h
      rcases h with h | h
      · exact .inl h.1
      · exact .inr h
    · simp [e, mem_rem] at h
      exact .inl h.1.1

theorem nodup_le : ∀ (l1 l2 : List ByteArray), l1.Nodup → l2.Nodup → (∀ x, x ∈ l1 → x ∈ l2) → l1.length ≤ l2.length
  | [], _, _, _, _ => Nat.zero_le _
  | a :: t, l2, h1, h2, h => by
    have h1' := List.nodup_cons.1 h1
    have := nodup_le t (rem l2 a) h1'.2 (nodup_rem h2 a) fun x hx => mem_rem.2 ⟨h x (List.mem_cons_of_mem _ hx), fun e => h1'.1 (e ▸ hx)⟩
    have h3 := length_rem h2 a
    rw [inS_iff.2 (h a (by simp))] at h3
    simp at h3 ⊢
    omega
theorem nodup_same {l1 l2 : List ByteArray} (h1 : l1.Nodup) (h2 : l2.Nodup) (h : ∀ x, x ∈ l1 ↔ x ∈ l2) : l1.length = l2.length :=
  Nat.le_antisymm (nodup_le l1 l2 h1 h2 fun x hx => (h x).1 hx) (nodup_le l2 l1 h2 h1 fun x hx => (h x).2 hx)

/-- how many of the strings collected so far are in S -/
def cnt (S : List ByteArray) (A : Nat → ByteArray) (k : Nat) : Nat := ((coll A k).filter fun x => inS S x).length
theorem cnt_seen {S : List ByteArray} {A : Nat → ByteArray} {k : Nat} (h : inS (coll A k) (A k) = true) : cnt S A (k + 1) = cnt S A k := by
  unfold cnt
  rw [show coll A (k + 1) = coll A k from by show add _ _ = _; unfold add; rw [h]; rfl]
theorem cnt_new {S : List ByteArray} {A : Nat → ByteArray} {k : Nat} (h : inS (coll A k) (A k) = false) : cnt S A (k + 1) = cnt S A k + if inS S (A k) then 1 else 0 := by
  unfold cnt
  rw [show coll A (k + 1) = coll A k ++ [A k] from by show add _ _ = _; unfold add; rw [h]; rfl, List.filter_append, List.length_append]
  cases e : inS S (A k) <;> simp [e]
theorem coll_seen {A : Nat → ByteArray} {k : Nat} (h : inS (coll A k) (A k) = true) : coll A (k + 1) = coll A k := by
  show add _ _ = _; unfold add; rw [h]; rfl
theorem cnt_le (S : List ByteArray) (A : Nat → ByteArray) (k : Nat) : cnt S A k ≤ k := by
  unfold cnt
  refine Nat.le_trans (List.length_filter_le _ _) ?_
  induction k with
  | zero => exact Nat.le_refl 0
  | succ k ih =>
    show (add _ _).length ≤ _
    unfold add
    split
    · omega
    · simp; omega

/-- before, then name, then from -/
def askAt (Bf : Nat → ByteArray) (n : Nat) (name frm : ByteArray) : Nat → ByteArray := fun j => if j < n then Bf j else if j = n then name else frm
theorem count_all (Bf : Nat → ByteArray) (n : Nat) (name frm : ByteArray) (remove : Bool) : (landedSet (coll Bf n) name frm remove).length = cnt (landedSet (coll Bf n) name frm remove) (askAt Bf n name frm) (n + 2) := by
  unfold cnt
  refine nodup_same (nodup_landed (nodup_coll Bf n) name frm remove) ((nodup_coll _ _).filter _) fun x => ?_
  rw [List.mem_filter, inS_iff, mem_coll]
  refine ⟨fun h => ⟨?_, h⟩, fun h => h.2⟩
  rcases landed_sub h with h | h
  · obtain ⟨j, hj, e⟩ := mem_coll.1 h
    exact ⟨j, by omega, by unfold askAt; rw [if_pos hj]; exact e⟩
  · exact ⟨n, by omega, by unfold askAt; rw [if_neg (by omega), if_pos rfl]; exact h.symm⟩

/-- the answer is a bool -/
def Ans (e : Ending) : Prop := ∃ r : Bool, e = .returned (.bool r)

set_option maxRecDepth 100000 in
set_option maxHeartbeats 1000000 in
theorem bytes13_any (s1 s2 : ByteArray) (a1 : Option Addr) (n c1 : Nat) (q : Bool) (M : Nat → ByteArray) (w : World) (hM : Strs w a1 n M) (hn9 : n ≤ 9223372036854775807) :
    Calls Trym.prog 13 #[.slice a1 n c1, .string s1, .string s2, .bool q] w fun e w' => Ans e ∧ w' = w := by
  have HM := hide0 hM
  clear hM
  go_enter Trym.func13, Trym.ntmps13
  go_wp2
  all_goals try (go_ret; exact ⟨⟨_, rfl⟩, rfl⟩)
  go_loop [9, 10] (fun x i => ∃ (k : Nat) (t : Int), k ≤ n ∧ i = .int .i64 k ∧ x = .int .i64 t) (fun _ i => n - (intOf i).toNat)
  case atStart => exact ⟨0, _, by omega, rfl, rfl⟩
  case round =>
    obtain ⟨k, t, hk, rfl, rfl⟩ := hrel
    by_cases hlt : k < n
    · obtain ⟨b, off, rfl, hc⟩ := HM.out.cells (by omega)
      have c1 := hc k hlt
      clear hc
      go_wp2
      · go_ret
        exact ⟨⟨_, rfl⟩, rfl⟩
      · go_ret
        exact ⟨⟨_, rfl⟩, rfl⟩
      · go_round
        case rel => exact ⟨k + 1, _, by omega, by go_num, rfl⟩
        case measure => simp [intOf]; omega
    · go_wp2
      all_goals
        go_ret
        exact ⟨⟨_, rfl⟩, rfl⟩

/-- the first n strings, as cells -/
def texts (Z : Nat → ByteArray) (n : Nat) : List Value := (List.range n).map fun j => .string (Z j)
theorem texts_length (Z : Nat → ByteArray) (n : Nat) : (texts Z n).length = n := by simp [texts]
theorem texts_at (Z : Nat → ByteArray) {n i : Nat} (h : i < n) : (texts Z n)[i]? = some (.string (Z i)) := by simp [texts, h]
theorem texts_get {Z : Nat → ByteArray} {n i : Nat} {v : Value} (h : (texts Z n)[i]? = some v) : i < n ∧ v = .string (Z i) := by
  have hi : i < n := by
    rcases Nat.lt_or_ge i n with h' | h'
    · exact h'
    · rw [List.getElem?_eq_none (by rw [texts_length]; exact h')] at h; cases h
  rw [texts_at Z hi] at h
  exact ⟨hi, (Option.some.inj h).symm⟩
theorem texts_one (Z : Nat → ByteArray) (n : Nat) : ∀ v ∈ texts Z n, v.oneCell' = true := by
  intro v hv
  simp only [texts, List.mem_map] at hv
  obtain ⟨j, _, rfl⟩ := hv
  rfl
theorem texts_succ (Z : Nat → ByteArray) (n : Nat) : texts Z (n + 1) = texts Z n ++ [.string (Z n)] := by simp [texts, List.range_succ]
theorem strs_news {w w' : World} {x : Addr} {n : Nat} {Z : Nat → ByteArray} (h : Strs w (some x) n Z) (hb : Below w.heap.size w w') : ∀ j v, (texts Z n)[j]? = some v → w'.cell? (x.add j) = some v := by
  intro j v hv
  obtain ⟨hj, rfl⟩ := texts_get hv
  obtain ⟨b, off, e, hc⟩ := h.cells (by omega)
  simp only [Option.some.injEq] at e
  subst e
  rw [Go.WideShapes.add_plain]
  exact cell_later hb (hc j hj)

theorem Trym.info9 : (Trym.prog.info? 9).map (fun i => (i.zero, i.size, i.bytes)) = some (some (.string ByteArray.empty), 1, 16) := by kernel_rfl
theorem Trym.size9 : (Trym.prog.info? 9).map (·.size) = some 1 := by kernel_rfl
theorem go_make9 (n : Nat) (hn : n ≤ 65536) (w : World) : (Instr.makeSlice 29 (.int .i64 (n : Int)) (.int .i64 (n : Int))).run Trym.prog w = .ok (.slice (some ⟨w.heap.size, 0, none⟩) n n) (w.alloc (.cells (madeCells #[.string ByteArray.empty] n) 9)) :=
  Go.run_make_row' 29 9 (.string ByteArray.empty) 16 Trym.underlying29 Trym.info9 rfl .i64 .i64 n (by omega) (by omega) w

/-- a new slice of n strings is handed back, nothing old has turned -/
def CopiedS (w : World) (n : Nat) (Z : Nat → ByteArray) (e : Ending) (w' : World) : Prop := ∃ a', e = .returned (.slice a' n n) ∧ Strs w' a' n Z ∧ Below w.heap.size w w'

set_option maxHeartbeats 400000 in
theorem cloneS_any (a : Option Addr) (n c : Nat) (Z : Nat → ByteArray) (w : World) (hZ : Strs w a n Z) (h0 : a = none → n = 0) (hn : n ≤ 65536) :
    Calls Trym.prog 14 #[.slice a n c] w (CopiedS w n Z) := by
  have q29 : ∀ (w : World) (a : Option Addr) (n c n' c' : Nat), (binOp .eql 29 (.slice a n c) (.slice none n' c')).run Trym.prog w = .ok (.bool a.isNone) w := fun w a n c n' c' => Lib.run_eql_slice_nil w 29 9 a n c n' c' Trym.underlying29
  have hmk := fun w => go_make9 n hn w
  cases a with
  | none =>
    obtain rfl := h0 rfl
    go_enter Trym.func14, Trym.ntmps14
    go_wp2
    go_ret
    exact ⟨.none, rfl, ⟨fun h => absurd h (by omega), fun _ h => absurd h (by omega)⟩, Below.refl _ _⟩
  | some x =>
    have HZ := hide0 hZ
    clear hZ h0
    go_enter Trym.func14, Trym.ntmps14
    go_wp2_with (refine wpList_copy_splice rfl _ _ 29 29 rfl 9 Trym.underlying29 Trym.size9 _ _ _ _ _ _ rfl rfl w.heap.size 0 (madeCells #[.string ByteArray.empty] n).toList 9 ?c1 (texts Z n) ?c2 ?c3 ?c4 (texts_one Z n) w.heap.size w ((Below.refl _ _).alloc (Nat.le_refl _) _) (Nat.le_refl _) ?_)
    case c1 => rw [Array.toArray_toList]; exact heap_alloc_new _ _
    case c2 => rw [texts_length]; simp
    case c3 =>
      intro hp
      have key := strs_news HZ.out (w' := w.alloc (.cells (madeCells #[.string ByteArray.empty] n) 9)) ((Below.refl _ _).alloc (Nat.le_refl _) _)
      first | exact key | exact ⟨rfl, x, rfl, key⟩
    case c4 => rw [texts_length, Array.length_toList, size_madeCells]; omega
    intro w1 hh hb
    clear hmk q29
    go_wp2
    go_ret
    refine ⟨some ⟨w.heap.size, 0, none⟩, rfl, ⟨fun _ => ⟨w.heap.size, 0, rfl, fun j hj => ?_⟩, HZ.out.sizes⟩, hb⟩
    rw [splice_all _ _ (by rw [texts_length, Array.length_toList, size_madeCells])] at hh
    rw [Nat.zero_add, cell_of_row w1 w.heap.size j (texts Z n).toArray 9 (0, 0) hh.out, List.getElem?_toArray]
    exact texts_at Z hj
end Go.Proofs.Qxb6000548aMods
