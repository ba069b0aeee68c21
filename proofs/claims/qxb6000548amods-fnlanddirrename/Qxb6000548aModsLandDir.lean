/- (change).land (16) on a directory -/
import Derived.Test.Qxb6000548aModsBase
import Derived.Test.Qxb6000548aModsSets
import Derived.Deep.RegionHeld3
import Derived.Deep.DrawnRows
namespace Go.Proofs.Qxb6000548aMods
open Go.ChangeShapes Go.WideShapes Go.ChangeAt Go.RowKit
attribute [local go_sem ↓] Go.wp_at_zero Go.wp_at_succ
set_option linter.unusedVariables false

/-- a delete whose run is known, at a step of a region that draws -/
theorem step_delete_run {P : Program} {ops : Array Oper} {o : Oper} {a : Act} {w : World} {K : Act → World → Prop} {Q : Exit → Act → World → Prop} {E : Prop} (hgd : o.guard = none) (m x : Operand) (t k : TypeId)
    (ho : o.op = .call { callee := .builtin .delete, args := #[m, x], argTypes := #[t, k] }) (vm vx : Value) (hm : a.eval m = vm) (hx : a.eval x = vx) (w' : World)
    (hr : (Builtin.delete_ #[t, k] o.type #[vm, vx]).run P w = .ok (.tuple #[]) w') (h : K (a.put o.dst (.tuple #[])) w') : if Region.wanted o (yielded ops a.tmps) = true then Oper.wp P o a w K Q else E := by
  have hw : Region.wanted o (yielded ops a.tmps) = true := by simp [Region.wanted, hgd]
  rw [if_pos hw]
  unfold Oper.wp
  simp [execOp, ho, resolve, invoke, builtin, hm, hx, hr, Result.andThen]
  exact h

theorem SetM.drew {R : Value → Option (DataW Unit × List MemPlace)} {w : World} {b n : Nat} {S : List ByteArray} (h : SetM R w b n S) : SetM R w.drew b n S := by
  obtain ⟨D, h1, h2⟩ := h
  exact ⟨D, h1.drew, h2⟩
theorem SetM.ne {R : Value → Option (DataW Unit × List MemPlace)} {w : World} {b n : Nat} {S : List ByteArray} (h : SetM R w b n S) {a : Addr} {v : Value} (hc : w.cell? a = some v) : some a.block ≠ some b := by
  intro e
  simp only [Option.some.injEq] at e
  obtain ⟨D, ⟨es, clock, hb, _⟩, _⟩ := h
  rw [← e] at hb
  simp [World.cell?, hb] at hc

/-- what a landing on a directory leaves -/
def DirLanded (B : Nat) (w : World) (n : Nat) (S : List ByteArray) (e : Ending) (w' : World) : Prop := e = .returned (.tuple #[]) ∧ SetM ptrElem w' B n S ∧ w.grownBy w' (some B)

/-- the set behind a landing -/
def landedSet (S : List ByteArray) (name frm : ByteArray) (remove : Bool) : List ByteArray :=
  let S1 := if frm = ⟨#[]⟩ then S else rem S frm
  if remove then rem S1 name else add S1 name

theorem not_empty {s : ByteArray} (h : ¬ s = ⟨#[]⟩) : (!s.toList.isEmpty) = true := by
  rw [ByteArray.toList_eq]
  obtain ⟨⟨l⟩⟩ := s
  cases l with
  | nil => exact absurd rfl h
  | cons a l => rfl
theorem landed_er (S : List ByteArray) (name : ByteArray) {frm : ByteArray} (h : frm = ⟨#[]⟩) : landedSet S name frm true = rem S name := by simp [landedSet, h]
theorem landed_ea (S : List ByteArray) (name : ByteArray) {frm : ByteArray} (h : frm = ⟨#[]⟩) : landedSet S name frm false = add S name := by simp [landedSet, h]
theorem landed_nr (S : List ByteArray) (name : ByteArray) {frm : ByteArray} (h : ¬ frm = ⟨#[]⟩) : landedSet S name frm true = rem (rem S frm) name := by simp [landedSet, h]
theorem landed_na (S : List ByteArray) (name : ByteArray) {frm : ByteArray} (h : ¬ frm = ⟨#[]⟩) : landedSet S name frm false = add (rem S frm) name := by simp [landedSet, h]
theorem dir_frame {w w0 w2 : World} {B : Nat} (hb : Below w.heap.size w w0) (h2 : w0.drew.grownBy w2 (some B)) : w.grownBy w2 (some B) := (grown_of_below hb.drew _).trans h2
theorem dir_frame2 {w w0 w1 w2 : World} {B : Nat} (hb : Below w.heap.size w w0) (h1 : w0.drew.grownBy w1 (some B)) (h2 : w1.drew.grownBy w2 (some B)) : w.grownBy w2 (some B) := ((grown_of_below hb.drew _).trans h1).trans ((grown_of_below (Below.refl _ _).drew _).trans h2)

set_option maxRecDepth 100000 in
set_option maxHeartbeats 1000000 in
theorem dir_er (f B n : Nat) (name frm : ByteArray) (S : List ByteArray) (w : World) (hf0 : w.cell? ⟨f, 0, none⟩ = some (.bool true)) (hf4 : w.cell? ⟨f, 4, none⟩ = some (.map (some B))) (hS : SetM ptrElem w B n S)
    (hn : n ≤ 65536) (hname : name.size ≤ maxLen) (hfrm : frm.size ≤ maxLen) (he : frm = ⟨#[]⟩) :
    Calls Trym.prog 16 #[.agg #[.int .u64 0, .pointer (some ⟨f, 0, none⟩), .bool false, .int .i64 0, .slice none 0 0, .bool false, .int .i64 0, .string name, .string frm, .pointer none]] w (DirLanded B w (n + 1) (landedSet S name frm true)) := by
  have hb : Below w.heap.size w (w.alloc (.cells #[.int .u64 0, .pointer (some ⟨f, 0, none⟩), .bool false, .int .i64 0, .slice none 0 0, .bool false, .int .i64 0, .string name, .string frm, .pointer none] 42)) := (Below.refl _ _).alloc (Nat.le_refl _) _
  have f0 := cell_later hb hf0
  have f4 := cell_later hb hf4
  have HB := hide0 hb
  have HS0 := hide0 (hS.kept (grown_of_below hb none) (by simp))
  have k7 : (w.alloc (.cells #[.int .u64 0, .pointer (some ⟨f, 0, none⟩), .bool false, .int .i64 0, .slice none 0 0, .bool false, .int .i64 0, .string name, .string frm, .pointer none] 42)).cell? ⟨w.heap.size, 7, none⟩ = some (.string name) := by simp [go_sem]
  have k8 : (w.alloc (.cells #[.int .u64 0, .pointer (some ⟨f, 0, none⟩), .bool false, .int .i64 0, .slice none 0 0, .bool false, .int .i64 0, .string name, .string frm, .pointer none] 42)).cell? ⟨w.heap.size, 8, none⟩ = some (.string frm) := by simp [go_sem]
  have k9 : (w.alloc (.cells #[.int .u64 0, .pointer (some ⟨f, 0, none⟩), .bool false, .int .i64 0, .slice none 0 0, .bool false, .int .i64 0, .string name, .string frm, .pointer none] 42)).cell? ⟨w.heap.size, 9, none⟩ = some (.pointer none) := by simp [go_sem]
  have ht : (!frm.toList.isEmpty) = false := by rw [he, ByteArray.toList_eq]; rfl
  clear hf0 hf4 hb hS
  have HE := hide0 he
  clear he
  go_enter Trym.func16, Trym.ntmps16
  go_wp2
  generalize w.alloc (.cells #[.int .u64 0, .pointer (some ⟨f, 0, none⟩), .bool false, .int .i64 0, .slice none 0 0, .bool false, .int .i64 0, .string name, .string frm, .pointer none] 42) = w0 at *
  clear f0 k8
  obtain ⟨w2, hd, hs2, hg2⟩ := HS0.out.drew.del Trym.underlying37 hname 0
  have HD2 := hide0 hd
  have HS2 := hide0 hs2
  have HG2 := hide0 hg2
  have j4 : w2.cell? ⟨f, 4, none⟩ = some (.map (some B)) := hg2.cell (by exact f4) (HS0.out.ne f4)
  have j7 : w2.cell? ⟨w.heap.size, 7, none⟩ = some (.string name) := hg2.cell (by exact k7) (HS0.out.ne k7)
  clear hd hs2 hg2
  go_region_held3 (fun w' => w'.cell? ⟨f, 4, none⟩ = some (.map (some B)) ∧ w'.cell? ⟨w.heap.size, 7, none⟩ = some (.string name))
    (first | exact ⟨j4, j7⟩ | go_keep)
    (refine step_delete_run (by rfl) _ _ 37 9 (by rfl) _ _ (by rfl) (by rfl) w2 HD2.out ?_)
  go_wp2
  go_end0
  exact ⟨rfl, by rw [landed_er S name HE.out]; exact HS2.out.mono (by omega), (dir_frame HB.out HG2.out)⟩

set_option maxRecDepth 100000 in
set_option maxHeartbeats 1000000 in
theorem dir_ea (f B n : Nat) (name frm : ByteArray) (t : Addr) (S : List ByteArray) (w : World) (hf0 : w.cell? ⟨f, 0, none⟩ = some (.bool true)) (hf4 : w.cell? ⟨f, 4, none⟩ = some (.map (some B))) (hS : SetM ptrElem w B n S)
    (hn : n ≤ 65536) (hname : name.size ≤ maxLen) (hfrm : frm.size ≤ maxLen) (he : frm = ⟨#[]⟩) :
    Calls Trym.prog 16 #[.agg #[.int .u64 0, .pointer (some ⟨f, 0, none⟩), .bool false, .int .i64 0, .slice none 0 0, .bool false, .int .i64 0, .string name, .string frm, .pointer (some t)]] w (DirLanded B w (n + 1) (landedSet S name frm false)) := by
  have hb : Below w.heap.size w (w.alloc (.cells #[.int .u64 0, .pointer (some ⟨f, 0, none⟩), .bool false, .int .i64 0, .slice none 0 0, .bool false, .int .i64 0, .string name, .string frm, .pointer (some t)] 42)) := (Below.refl _ _).alloc (Nat.le_refl _) _
  have f0 := cell_later hb hf0
  have f4 := cell_later hb hf4
  have HB := hide0 hb
  have HS0 := hide0 (hS.kept (grown_of_below hb none) (by simp))
  have k7 : (w.alloc (.cells #[.int .u64 0, .pointer (some ⟨f, 0, none⟩), .bool false, .int .i64 0, .slice none 0 0, .bool false, .int .i64 0, .string name, .string frm, .pointer (some t)] 42)).cell? ⟨w.heap.size, 7, none⟩ = some (.string name) := by simp [go_sem]
  have k8 : (w.alloc (.cells #[.int .u64 0, .pointer (some ⟨f, 0, none⟩), .bool false, .int .i64 0, .slice none 0 0, .bool false, .int .i64 0, .string name, .string frm, .pointer (some t)] 42)).cell? ⟨w.heap.size, 8, none⟩ = some (.string frm) := by simp [go_sem]
  have k9 : (w.alloc (.cells #[.int .u64 0, .pointer (some ⟨f, 0, none⟩), .bool false, .int .i64 0, .slice none 0 0, .bool false, .int .i64 0, .string name, .string frm, .pointer (some t)] 42)).cell? ⟨w.heap.size, 9, none⟩ = some (.pointer (some t)) := by simp [go_sem]
  have ht : (!frm.toList.isEmpty) = false := by rw [he, ByteArray.toList_eq]; rfl
  clear hf0 hf4 hb hS
  have HE := hide0 he
  clear he
  go_enter Trym.func16, Trym.ntmps16
  go_wp2
  generalize w.alloc (.cells #[.int .u64 0, .pointer (some ⟨f, 0, none⟩), .bool false, .int .i64 0, .slice none 0 0, .bool false, .int .i64 0, .string name, .string frm, .pointer (some t)] 42) = w0 at *
  clear f0 k8
  obtain ⟨w2, hd, hs2, hg2⟩ := HS0.out.drew.put Trym.underlying37 (by unfold maxLen; omega) hname (ptrElem_mk (some t))
  have HS2 := hide0 hs2
  have HG2 := hide0 hg2
  have j4 : w2.cell? ⟨f, 4, none⟩ = some (.map (some B)) := hg2.cell (by exact f4) (HS0.out.ne f4)
  have j7 : w2.cell? ⟨w.heap.size, 7, none⟩ = some (.string name) := hg2.cell (by exact k7) (HS0.out.ne k7)
  have j9 : w2.cell? ⟨w.heap.size, 9, none⟩ = some (.pointer (some t)) := hg2.cell (by exact k9) (HS0.out.ne k9)
  clear hs2 hg2
  go_region_held3 (fun w' => w'.cell? ⟨f, 4, none⟩ = some (.map (some B)) ∧ w'.cell? ⟨w.heap.size, 7, none⟩ = some (.string name) ∧ w'.cell? ⟨w.heap.size, 9, none⟩ = some (.pointer (some t)))
    (first | exact ⟨j4, j7, j9⟩ | go_keep)
    (fail)
  go_wp2
  go_end0
  exact ⟨rfl, by rw [landed_ea S name HE.out]; exact HS2.out, (dir_frame HB.out HG2.out)⟩

set_option maxRecDepth 100000 in
set_option maxHeartbeats 1000000 in
theorem dir_nr (f B n : Nat) (name frm : ByteArray) (S : List ByteArray) (w : World) (hf0 : w.cell? ⟨f, 0, none⟩ = some (.bool true)) (hf4 : w.cell? ⟨f, 4, none⟩ = some (.map (some B))) (hS : SetM ptrElem w B n S)
    (hn : n ≤ 65536) (hname : name.size ≤ maxLen) (hfrm : frm.size ≤ maxLen) (he : ¬ frm = ⟨#[]⟩) :
    Calls Trym.prog 16 #[.agg #[.int .u64 0, .pointer (some ⟨f, 0, none⟩), .bool false, .int .i64 0, .slice none 0 0, .bool false, .int .i64 0, .string name, .string frm, .pointer none]] w (DirLanded B w (n + 1) (landedSet S name frm true)) := by
  have hb : Below w.heap.size w (w.alloc (.cells #[.int .u64 0, .pointer (some ⟨f, 0, none⟩), .bool false, .int .i64 0, .slice none 0 0, .bool false, .int .i64 0, .string name, .string frm, .pointer none] 42)) := (Below.refl _ _).alloc (Nat.le_refl _) _
  have f0 := cell_later hb hf0
  have f4 := cell_later hb hf4
  have HB := hide0 hb
  have HS0 := hide0 (hS.kept (grown_of_below hb none) (by simp))
  have k7 : (w.alloc (.cells #[.int .u64 0, .pointer (some ⟨f, 0, none⟩), .bool false, .int .i64 0, .slice none 0 0, .bool false, .int .i64 0, .string name, .string frm, .pointer none] 42)).cell? ⟨w.heap.size, 7, none⟩ = some (.string name) := by simp [go_sem]
  have k8 : (w.alloc (.cells #[.int .u64 0, .pointer (some ⟨f, 0, none⟩), .bool false, .int .i64 0, .slice none 0 0, .bool false, .int .i64 0, .string name, .string frm, .pointer none] 42)).cell? ⟨w.heap.size, 8, none⟩ = some (.string frm) := by simp [go_sem]
  have k9 : (w.alloc (.cells #[.int .u64 0, .pointer (some ⟨f, 0, none⟩), .bool false, .int .i64 0, .slice none 0 0, .bool false, .int .i64 0, .string name, .string frm, .pointer none] 42)).cell? ⟨w.heap.size, 9, none⟩ = some (.pointer none) := by simp [go_sem]
  have ht : (!frm.toList.isEmpty) = true := not_empty he
  clear hf0 hf4 hb hS
  have HE := hide0 he
  clear he
  go_enter Trym.func16, Trym.ntmps16
  go_wp2
  generalize w.alloc (.cells #[.int .u64 0, .pointer (some ⟨f, 0, none⟩), .bool false, .int .i64 0, .slice none 0 0, .bool false, .int .i64 0, .string name, .string frm, .pointer none] 42) = w0 at *
  obtain ⟨w1, hd, hs1, hg1⟩ := HS0.out.drew.del Trym.underlying37 hfrm 0
  have HD := hide0 hd
  have HS1 := hide0 hs1
  have HG1 := hide0 hg1
  have g4 : w1.cell? ⟨f, 4, none⟩ = some (.map (some B)) := hg1.cell (by exact f4) (HS0.out.ne f4)
  have g7 : w1.cell? ⟨w.heap.size, 7, none⟩ = some (.string name) := hg1.cell (by exact k7) (HS0.out.ne k7)
  have g8 : w1.cell? ⟨w.heap.size, 8, none⟩ = some (.string frm) := hg1.cell (by exact k8) (HS0.out.ne k8)
  have g9 : w1.cell? ⟨w.heap.size, 9, none⟩ = some (.pointer none) := hg1.cell (by exact k9) (HS0.out.ne k9)
  clear hd hs1 hg1
  go_region_held3 (fun w' => w'.cell? ⟨f, 4, none⟩ = some (.map (some B)) ∧ w'.cell? ⟨w.heap.size, 8, none⟩ = some (.string frm))
    (first | exact ⟨g4, g8⟩ | go_keep)
    (refine step_delete_run (by rfl) _ _ 37 9 (by rfl) _ _ (by rfl) (by rfl) w1 HD.out ?_)
  clear f0 f4 k7 k8 k9 HD
  go_wp2
  obtain ⟨w2, hd, hs2, hg2⟩ := HS1.out.drew.del Trym.underlying37 hname 0
  have HD2 := hide0 hd
  have HS2 := hide0 hs2
  have HG2 := hide0 hg2
  have j4 : w2.cell? ⟨f, 4, none⟩ = some (.map (some B)) := hg2.cell (by exact g4) (HS1.out.ne g4)
  have j7 : w2.cell? ⟨w.heap.size, 7, none⟩ = some (.string name) := hg2.cell (by exact g7) (HS1.out.ne g7)
  clear hd hs2 hg2
  go_region_held3 (fun w' => w'.cell? ⟨f, 4, none⟩ = some (.map (some B)) ∧ w'.cell? ⟨w.heap.size, 7, none⟩ = some (.string name))
    (first | exact ⟨j4, j7⟩ | go_keep)
    (refine step_delete_run (by rfl) _ _ 37 9 (by rfl) _ _ (by rfl) (by rfl) w2 HD2.out ?_)
  go_wp2
  go_end0
  exact ⟨rfl, by rw [landed_nr S name HE.out]; exact HS2.out.mono (by omega), (dir_frame2 HB.out HG1.out HG2.out)⟩

set_option maxRecDepth 100000 in
set_option maxHeartbeats 1000000 in
theorem dir_na (f B n : Nat) (name frm : ByteArray) (t : Addr) (S : List ByteArray) (w : World) (hf0 : w.cell? ⟨f, 0, none⟩ = some (.bool true)) (hf4 : w.cell? ⟨f, 4, none⟩ = some (.map (some B))) (hS : SetM ptrElem w B n S)
    (hn : n ≤ 65536) (hname : name.size ≤ maxLen) (hfrm : frm.size ≤ maxLen) (he : ¬ frm = ⟨#[]⟩) :
    Calls Trym.prog 16 #[.agg #[.int .u64 0, .pointer (some ⟨f, 0, none⟩), .bool false, .int .i64 0, .slice none 0 0, .bool false, .int .i64 0, .string name, .string frm, .pointer (some t)]] w (DirLanded B w (n + 1) (landedSet S name frm false)) := by
  have hb : Below w.heap.size w (w.alloc (.cells #[.int .u64 0, .pointer (some ⟨f, 0, none⟩), .bool false, .int .i64 0, .slice none 0 0, .bool false, .int .i64 0, .string name, .string frm, .pointer (some t)] 42)) := (Below.refl _ _).alloc (Nat.le_refl _) _
  have f0 := cell_later hb hf0
  have f4 := cell_later hb hf4
  have HB := hide0 hb
  have HS0 := hide0 (hS.kept (grown_of_below hb none) (by simp))
  have k7 : (w.alloc (.cells #[.int .u64 0, .pointer (some ⟨f, 0, none⟩), .bool false, .int .i64 0, .slice none 0 0, .bool false, .int .i64 0, .string name, .string frm, .pointer (some t)] 42)).cell? ⟨w.heap.size, 7, none⟩ = some (.string name) := by simp [go_sem]
  have k8 : (w.alloc (.cells #[.int .u64 0, .pointer (some ⟨f, 0, none⟩), .bool false, .int .i64 0, .slice none 0 0, .bool false, .int .i64 0, .string name, .string frm, .pointer (some t)] 42)).cell? ⟨w.heap.size, 8, none⟩ = some (.string frm) := by simp [go_sem]
  have k9 : (w.alloc (.cells #[.int .u64 0, .pointer (some ⟨f, 0, none⟩), .bool false, .int .i64 0, .slice none 0 0, .bool false, .int .i64 0, .string name, .string frm, .pointer (some t)] 42)).cell? ⟨w.heap.size, 9, none⟩ = some (.pointer (some t)) := by simp [go_sem]
  have ht : (!frm.toList.isEmpty) = true := not_empty he
  clear hf0 hf4 hb hS
  have HE := hide0 he
  clear he
  go_enter Trym.func16, Trym.ntmps16
  go_wp2
  generalize w.alloc (.cells #[.int .u64 0, .pointer (some ⟨f, 0, none⟩), .bool false, .int .i64 0, .slice none 0 0, .bool false, .int .i64 0, .string name, .string frm, .pointer (some t)] 42) = w0 at *
  obtain ⟨w1, hd, hs1, hg1⟩ := HS0.out.drew.del Trym.underlying37 hfrm 0
  have HD := hide0 hd
  have HS1 := hide0 hs1
  have HG1 := hide0 hg1
  have g4 : w1.cell? ⟨f, 4, none⟩ = some (.map (some B)) := hg1.cell (by exact f4) (HS0.out.ne f4)
  have g7 : w1.cell? ⟨w.heap.size, 7, none⟩ = some (.string name) := hg1.cell (by exact k7) (HS0.out.ne k7)
  have g8 : w1.cell? ⟨w.heap.size, 8, none⟩ = some (.string frm) := hg1.cell (by exact k8) (HS0.out.ne k8)
  have g9 : w1.cell? ⟨w.heap.size, 9, none⟩ = some (.pointer (some t)) := hg1.cell (by exact k9) (HS0.out.ne k9)
  clear hd hs1 hg1
  go_region_held3 (fun w' => w'.cell? ⟨f, 4, none⟩ = some (.map (some B)) ∧ w'.cell? ⟨w.heap.size, 8, none⟩ = some (.string frm))
    (first | exact ⟨g4, g8⟩ | go_keep)
    (refine step_delete_run (by rfl) _ _ 37 9 (by rfl) _ _ (by rfl) (by rfl) w1 HD.out ?_)
  clear f0 f4 k7 k8 k9 HD
  go_wp2
  obtain ⟨w2, hd, hs2, hg2⟩ := HS1.out.drew.put Trym.underlying37 (by unfold maxLen; omega) hname (ptrElem_mk (some t))
  have HS2 := hide0 hs2
  have HG2 := hide0 hg2
  have j4 : w2.cell? ⟨f, 4, none⟩ = some (.map (some B)) := hg2.cell (by exact g4) (HS1.out.ne g4)
  have j7 : w2.cell? ⟨w.heap.size, 7, none⟩ = some (.string name) := hg2.cell (by exact g7) (HS1.out.ne g7)
  have j9 : w2.cell? ⟨w.heap.size, 9, none⟩ = some (.pointer (some t)) := hg2.cell (by exact g9) (HS1.out.ne g9)
  clear hs2 hg2
  go_region_held3 (fun w' => w'.cell? ⟨f, 4, none⟩ = some (.map (some B)) ∧ w'.cell? ⟨w.heap.size, 7, none⟩ = some (.string name) ∧ w'.cell? ⟨w.heap.size, 9, none⟩ = some (.pointer (some t)))
    (first | exact ⟨j4, j7, j9⟩ | go_keep)
    (fail)
  go_wp2
  go_end0
  exact ⟨rfl, by rw [landed_na S name HE.out]; exact HS2.out, (dir_frame2 HB.out HG1.out HG2.out)⟩

end Go.Proofs.Qxb6000548aMods
