/- ZZLandDirHas (15) -/
import Derived.Test.Qxb6000548aModsLandDir
namespace Go.Proofs.Qxb6000548aMods
open Go.ChangeShapes Go.WideShapes Go.ChangeAt Go.RowKit
attribute [local go_sem ↓] Go.wp_at_zero Go.wp_at_succ

theorem land_dir (f B n : Nat) (name frm : ByteArray) (to : Option Addr) (remove : Bool) (hto : to.isNone = remove) (S : List ByteArray) (w : World) (hf0 : w.cell? ⟨f, 0, none⟩ = some (.bool true)) (hf4 : w.cell? ⟨f, 4, none⟩ = some (.map (some B))) (hS : SetM ptrElem w B n S)
    (hn : n ≤ 65536) (hname : name.size ≤ maxLen) (hfrm : frm.size ≤ maxLen) :
    Calls Trym.prog 16 #[.agg #[.int .u64 0, .pointer (some ⟨f, 0, none⟩), .bool false, .int .i64 0, .slice none 0 0, .bool false, .int .i64 0, .string name, .string frm, .pointer to]] w (DirLanded B w (n + 1) (landedSet S name frm remove)) := by
  subst hto
  by_cases he : frm = ⟨#[]⟩
  · cases to with
    | none => exact dir_er f B n name frm S w hf0 hf4 hS hn hname hfrm he
    | some t => exact dir_ea f B n name frm t S w hf0 hf4 hS hn hname hfrm he
  · cases to with
    | none => exact dir_nr f B n name frm S w hf0 hf4 hS hn hname hfrm he
    | some t => exact dir_na f B n name frm t S w hf0 hf4 hS hn hname hfrm he

/-- the slice at 'a' of n elements reads as the strings S 0 .. S (n - 1) -/
structure Strs (w : World) (a : Option Addr) (n : Nat) (S : Nat → ByteArray) : Prop where
  cells : 0 < n → ∃ b off, a = some ⟨b, off, none⟩ ∧ ∀ j, j < n → w.cell? ⟨b, off + j, none⟩ = some (.string (S j))
  sizes : ∀ j, j < n → (S j).size ≤ maxLen
theorem Strs.below {w w' : World} {a : Option Addr} {n : Nat} {S : Nat → ByteArray} (h : Strs w a n S) (hb : Below w.heap.size w w') : Strs w' a n S where
  cells := fun hn => by
    obtain ⟨b, off, e, hc⟩ := h.cells hn
    exact ⟨b, off, e, fun j hj => cell_later hb (hc j hj)⟩
  sizes := h.sizes

/-- the first k strings as a set -/
def coll (S : Nat → ByteArray) : Nat → List ByteArray
  | 0 => []
  | k + 1 => add (coll S k) (S k)

/-- a row of n cells that may be written, at block g -/
structure Row (w : World) (g n : Nat) (x : Nat → Value) : Prop where
  lt : g < w.heap.size
  cell : ∀ i, i < n → w.cell? ⟨g, i, none⟩ = some (x i)
  free : ∀ i, w.frozen? ⟨g, i, none⟩ = false
theorem Row.made (w : World) (z : Value) (e : TypeId) (n : Nat) : Row (w.alloc (.cells (madeCells #[z] n) e)) w.heap.size n (fun _ => z) where
  lt := by simp
  cell := fun i hi => by
    rw [World.cell?_alloc_new, ← Array.getElem?_toList, toList_madeCells_one]
    simp [hi]
  free := fun i => by simp [go_sem]
theorem Row.below {w w' : World} {g n : Nat} {x : Nat → Value} (h : Row w g n x) (hb : Below w.heap.size w w') : Row w' g n x where
  lt := Nat.lt_of_lt_of_le h.lt hb.size
  cell := fun i hi => cell_later hb (h.cell i hi)
  free := fun i => (hb.frozen (p := ⟨g, i, none⟩) h.lt).trans (h.free i)
theorem Row.store {w : World} {g n : Nat} {x x' : Nat → Value} (h : Row w g n x) {k : Nat} (hk : k < n) {v : Value} (hx : ∀ i, i < n → x' i = if i = k then v else x i) : Row (w.setCell ⟨g, k, none⟩ v) g n x' where
  lt := by simpa [World.setCell] using h.lt
  cell := fun i hi => by
    rw [hx i hi]
    by_cases e : i = k
    · subst e
      rw [if_pos rfl]
      exact World.cell?_setCell_same' _ _ _ (by rw [h.cell i hi]; rfl)
    · have hne : (⟨g, k, none⟩ : Addr) ≠ ⟨g, i, none⟩ := by
        intro hh
        have := congrArg Addr.off hh
        simp only at this
        omega
      rw [if_neg e, World.cell?_setCell_other _ _ _ _ hne]
      exact h.cell i hi
  free := fun i => (World.frozen?_setCell _ _ _ _).trans (h.free i)

theorem Row.congr {w : World} {g n : Nat} {x x' : Nat → Value} (h : Row w g n x) (hx : ∀ i, i < n → x' i = x i) : Row w g n x' where
  lt := h.lt
  cell := fun i hi => by rw [hx i hi]; exact h.cell i hi
  free := h.free

theorem Trym.info4 : (Trym.prog.info? 4).map (fun i => (i.zero, i.size, i.bytes)) = some (some (.bool false), 1, 1) := by kernel_rfl
theorem go_make4 (n : Nat) (hn : n ≤ 131072) (w : World) : (Instr.makeSlice 32 (.int .i64 (n : Int)) (.int .i64 (n : Int))).run Trym.prog w = .ok (.slice (some ⟨w.heap.size, 0, none⟩) n n) (w.alloc (.cells (madeCells #[.bool false] n) 4)) :=
  Go.run_make_row' 32 4 (.bool false) 1 Trym.underlying32 Trym.info4 rfl .i64 .i64 n (by omega) (by omega) w

theorem bool_step {n : Nat} (S : List ByteArray) (A : Nat → ByteArray) (k : Nat) : ∀ i, i < n → (if i < k + 1 then Value.bool (inS S (A i)) else .bool false) = if i = k then Value.bool (inS S (A k)) else (if i < k then Value.bool (inS S (A i)) else .bool false) := by
  intro i _
  by_cases e : i = k
  · subst e; simp
  · rw [if_neg e]
    by_cases e1 : i < k
    · rw [if_pos e1, if_pos (by omega)]
    · rw [if_neg e1, if_neg (by omega)]

/-- what ZZLandDirHas hands back -/
def HasAll (w : World) (na : Nat) (A : Nat → ByteArray) (S : List ByteArray) (e : Ending) (w' : World) : Prop :=
  ∃ g, e = .returned (.tuple #[.slice (some ⟨g, 0, none⟩) na na, .int .i64 (S.length : Int)]) ∧ Row w' g na (fun j => .bool (inS S (A j))) ∧ Below w.heap.size w w'

set_option maxRecDepth 100000 in
set_option maxHeartbeats 1000000 in
theorem dirhas_any (ab aa : Option Addr) (n cb na ca : Nat) (name frm : ByteArray) (remove : Bool) (Bf A : Nat → ByteArray) (w : World) (hB : Strs w ab n Bf) (hA : Strs w aa na A) (hn : n ≤ 65536) (hna : na ≤ 131072) (hname : name.size ≤ maxLen) (hfrm : frm.size ≤ maxLen) :
    Calls Trym.prog 15 #[.slice ab n cb, .string name, .string frm, .bool remove, .slice aa na ca] w (HasAll w na A (landedSet (coll Bf n) name frm remove)) := by
  have hmm := @run_makeMap Trym.prog
  have HBf := hide0 hB
  have HA := hide0 hA
  clear hB hA
  go_enter Trym.func15, Trym.ntmps15
  go_wp2
  have sm0 : SetM ptrElem ((w.alloc (.map #[] 0)).alloc (.cells #[.bool true, .slice none 0 0, .slice none 0 0, .map none, .map (some w.heap.size)] 39)) w.heap.size 0 [] := (SetM.made ptrElem w).kept (World.grownBy_alloc _ _ none) (by simp)
  have c0 : ((w.alloc (.map #[] 0)).alloc (.cells #[.bool true, .slice none 0 0, .slice none 0 0, .map none, .map (some w.heap.size)] 39)).cell? ⟨w.heap.size + 1, 0, none⟩ = some (.bool true) := by simp [go_sem]
  have c4 : ((w.alloc (.map #[] 0)).alloc (.cells #[.bool true, .slice none 0 0, .slice none 0 0, .map none, .map (some w.heap.size)] 39)).cell? ⟨w.heap.size + 1, 4, none⟩ = some (.map (some w.heap.size)) := by simp [go_sem]
  have bw : Below w.heap.size w ((w.alloc (.map #[] 0)).alloc (.cells #[.bool true, .slice none 0 0, .slice none 0 0, .map none, .map (some w.heap.size)] 39)) := ((Below.refl _ _).alloc (Nat.le_refl _) _).alloc (by simp) _
  have SM0 := hide0 sm0
  have C0 := hide0 c0
  have C4 := hide0 c4
  have BW := hide0 bw
  clear sm0 c0 c4 bw hmm
  generalize (w.alloc (.map #[] 0)).alloc (.cells #[.bool true, .slice none 0 0, .slice none 0 0, .map none, .map (some w.heap.size)] 39) = w0 at *
  go_loopw [13] (fun i wr => ∃ k : Nat, k ≤ n ∧ i = .int .i64 k ∧ SetM ptrElem wr w.heap.size k (coll Bf k) ∧ w0.grownBy wr (some w.heap.size)) (fun i _ => n - (intOf i).toNat)
  case atStart => exact ⟨0, by omega, rfl, SM0.out, World.grownBy.refl _ _⟩
  case round =>
    obtain ⟨k, hk, rfl, hs, hg⟩ := hrel
    have HS := hide0 hs
    have HG := hide0 hg
    have HBW : Hid (Below w.heap.size w wr) := BW.out.grown hg BW.out.size (fun j hj => by cases hj; exact Nat.le_refl _)
    have f0 := hg.cell C0.out (SM0.out.ne C0.out)
    have f4 := hg.cell C4.out (SM0.out.ne C4.out)
    clear hs hg
    by_cases hlt : k < n
    · obtain ⟨b, off, rfl, hc⟩ := (HBf.out.below HBW.out).cells (by omega)
      have d1 := hc k hlt
      have bk : (k : Int) < (n : Int) := by omega
      obtain ⟨w2, hu, hs2, hg2⟩ := ((HS.out.kept (World.grownBy_alloc wr (.cells #[.bool false, .slice none 0 0, .slice none 0 0, .map none, .map none] 39) none) (by simp)).drew).put Trym.underlying37 (by unfold maxLen; omega) (HBf.out.sizes k hlt) (ptrElem_mk (some ⟨wr.heap.size, 0, none⟩))
      have HS2 := hide0 hs2
      have hg3 : wr.grownBy w2 (some w.heap.size) := (World.grownBy_alloc wr (.cells #[.bool false, .slice none 0 0, .slice none 0 0, .map none, .map none] 39) _).trans ((grown_of_below (Below.refl _ _).drew _).trans hg2)
      have e4 := hg3.cell f4 (HS.out.ne f4)
      have e1 := hg3.cell d1 (HS.out.ne d1)
      have HG3 := hide0 (HG.out.trans hg3)
      clear hc hs2 hg2 hg3 f0
      go_wp2
      go_region_held3 (fun w' => w'.cell? ⟨w.heap.size + 1, 4, none⟩ = some (.map (some w.heap.size)) ∧ w'.cell? ⟨b, off + k, none⟩ = some (.string (Bf k)))
        (first | exact ⟨e4, e1⟩ | go_keep)
        (fail)
      go_wp2
      go_roundw
      case rel => exact ⟨k + 1, by omega, by go_num, HS2.out, HG3.out⟩
      case measure => simp [intOf]; omega
    · obtain rfl : k = n := by omega
      cases remove
      · go_wp2_with fail
        refine (land_dir (w.heap.size + 1) w.heap.size k name frm _ false rfl (coll Bf k) _ ?c0 ?c4 ?cs (by omega) hname hfrm).mono ?_
        case c0 => exact cell_later (((Below.refl _ _).alloc (Nat.le_refl _) _).alloc (by simp) _) f0
        case c4 => exact cell_later (((Below.refl _ _).alloc (Nat.le_refl _) _).alloc (by simp) _) f4
        case cs => exact HS.out.kept (grown_of_below (((Below.refl _ _).alloc (Nat.le_refl _) _).alloc (by simp) _) none) (by simp)
        rintro e w5 ⟨rfl, hs5, hg5⟩
        have hg6 : wr.grownBy w5 (some w.heap.size) := (grown_of_below (((Below.refl _ _).alloc (Nat.le_refl _) _).alloc (by simp) _) _).trans hg5
        have S5 := hide0 hs5
        have F5 := hide0 (hg6.cell f4 (HS.out.ne f4))
        have B5 : Hid (Below w.heap.size w w5) := HBW.out.grown hg6 HBW.out.size (fun j hj => by cases hj; exact Nat.le_refl _)
        have A5 := hide0 (HA.out.below B5.out)
        clear hs5 hg5 hg6 f0 f4 HS HG HBW HBf HA SM0 C0 C4 BW
        have hmk := fun w => go_make4 na hna w
        go_wp2
        clear hmk
        go_loopw [17] (fun i wx => ∃ l : Nat, l ≤ na ∧ i = .int .i64 l ∧ Row wx w5.heap.size na (fun j => if j < l then .bool (inS (landedSet (coll Bf k) name frm false) (A j)) else .bool false) ∧ Below w5.heap.size w5 wx) (fun i _ => na - (intOf i).toNat)
        case atStart => exact ⟨0, by omega, rfl, by simpa using Row.made w5 (.bool false) 4 na, (Below.refl _ _).alloc (Nat.le_refl _) _⟩
        case round =>
          obtain ⟨l, hl, rfl, hr, hb⟩ := hrel
          have HR := hide0 hr
          have HX := hide0 hb
          clear hr hb
          have g4 := cell_later HX.out F5.out
          by_cases hlt2 : l < na
          · obtain ⟨b, off, rfl, hc⟩ := (A5.out.below HX.out).cells (by omega)
            have d1 := hc l hlt2
            have bl : (l : Int) < (na : Int) := by omega
            obtain ⟨v, hlk⟩ := ((S5.out.kept (grown_of_below HX.out none) (by simp)).drew).ok (A5.out.sizes l hlt2)
            have d2 := HR.out.cell l hlt2
            have d3 := HR.out.free l
            rw [if_neg (by omega)] at d2
            clear hc
            go_wp2
            go_region_held3 (fun w' => w'.cell? ⟨w.heap.size + 1, 4, none⟩ = some (.map (some w.heap.size)) ∧ w'.cell? ⟨b, off + l, none⟩ = some (.string (A l)))
              (go_keep)
              (fail)
            go_wp2
            go_roundw
            case rel => exact ⟨l + 1, by omega, by go_num, (HR.out.below ((Below.refl _ _).drew)).store hlt2 (bool_step _ A l), HX.out.drew.setCell (Nat.le_refl _) _⟩
            case measure => simp [intOf]; omega
          · obtain rfl : l = na := by omega
            obtain ⟨D, h1, _, h3, _⟩ := S5.out.kept (grown_of_below HX.out none) (by simp)
            have E1 := hide0 h1
            have E3 := hide0 h3
            clear h1 h3
            go_wp2_with (at_len; refine wpList_len_own _ rfl _ 37 rfl 9 36 Trym.underlying37 ptrElem w.heap.size (k + 1) D rfl E1.out ?_)
            go_ret2
            exact ⟨w5.heap.size, by rw [← E3.out]; rfl, HR.out.congr (fun i hi => (if_pos hi).symm), below_on B5.out HX.out⟩
      · go_wp2_with fail
        refine (land_dir (w.heap.size + 1) w.heap.size k name frm _ true rfl (coll Bf k) _ ?c0 ?c4 ?cs (by omega) hname hfrm).mono ?_
        case c0 => exact cell_later ((Below.refl _ _).alloc (Nat.le_refl _) _) f0
        case c4 => exact cell_later ((Below.refl _ _).alloc (Nat.le_refl _) _) f4
        case cs => exact HS.out.kept (grown_of_below ((Below.refl _ _).alloc (Nat.le_refl _) _) none) (by simp)
        rintro e w5 ⟨rfl, hs5, hg5⟩
        have hg6 : wr.grownBy w5 (some w.heap.size) := (grown_of_below ((Below.refl _ _).alloc (Nat.le_refl _) _) _).trans hg5
        have S5 := hide0 hs5
        have F5 := hide0 (hg6.cell f4 (HS.out.ne f4))
        have B5 : Hid (Below w.heap.size w w5) := HBW.out.grown hg6 HBW.out.size (fun j hj => by cases hj; exact Nat.le_refl _)
        have A5 := hide0 (HA.out.below B5.out)
        clear hs5 hg5 hg6 f0 f4 HS HG HBW HBf HA SM0 C0 C4 BW
        have hmk := fun w => go_make4 na hna w
        go_wp2
        clear hmk
        go_loopw [17] (fun i wx => ∃ l : Nat, l ≤ na ∧ i = .int .i64 l ∧ Row wx w5.heap.size na (fun j => if j < l then .bool (inS (landedSet (coll Bf k) name frm true) (A j)) else .bool false) ∧ Below w5.heap.size w5 wx) (fun i _ => na - (intOf i).toNat)
        case atStart => exact ⟨0, by omega, rfl, by simpa using Row.made w5 (.bool false) 4 na, (Below.refl _ _).alloc (Nat.le_refl _) _⟩
        case round =>
          obtain ⟨l, hl, rfl, hr, hb⟩ := hrel
          have HR := hide0 hr
          have HX := hide0 hb
          clear hr hb
          have g4 := cell_later HX.out F5.out
          by_cases hlt2 : l < na
          · obtain ⟨b, off, rfl, hc⟩ := (A5.out.below HX.out).cells (by omega)
            have d1 := hc l hlt2
            have bl : (l : Int) < (na : Int) := by omega
            obtain ⟨v, hlk⟩ := ((S5.out.kept (grown_of_below HX.out none) (by simp)).drew).ok (A5.out.sizes l hlt2)
            have d2 := HR.out.cell l hlt2
            have d3 := HR.out.free l
            rw [if_neg (by omega)] at d2
            clear hc
            go_wp2
            go_region_held3 (fun w' => w'.cell? ⟨w.heap.size + 1, 4, none⟩ = some (.map (some w.heap.size)) ∧ w'.cell? ⟨b, off + l, none⟩ = some (.string (A l)))
              (go_keep)
              (fail)
            go_wp2
            go_roundw
            case rel => exact ⟨l + 1, by omega, by go_num, (HR.out.below ((Below.refl _ _).drew)).store hlt2 (bool_step _ A l), HX.out.drew.setCell (Nat.le_refl _) _⟩
            case measure => simp [intOf]; omega
          · obtain rfl : l = na := by omega
            obtain ⟨D, h1, _, h3, _⟩ := S5.out.kept (grown_of_below HX.out none) (by simp)
            have E1 := hide0 h1
            have E3 := hide0 h3
            clear h1 h3
            go_wp2_with (at_len; refine wpList_len_own _ rfl _ 37 rfl 9 36 Trym.underlying37 ptrElem w.heap.size (k + 1) D rfl E1.out ?_)
            go_ret2
            exact ⟨w5.heap.size, by rw [← E3.out]; rfl, HR.out.congr (fun i hi => (if_pos hi).symm), below_on B5.out HX.out⟩
end Go.Proofs.Qxb6000548aMods
