/-
  THE WALK OF 'hop.NewPaths' (function 14).
-/
import Derived.Test.YbulkdadwRows
import Derived.WalkKit
import Derived.ProofKit
import Derived.WalkLawsBesides
import Derived.WalkSpells
import Derived.Below
import Derived.RegionTactic
import Derived.BigRegion
namespace Go.Proofs.Ybulkdadw.Shape
open Go.ChangeShapes Go.WideShapes Go.ChangeAt Go.RowKit

theorem info3 : (Yba.prog.info? 3).map (fun i => (i.zero, i.size, i.bytes)) = some (some (.int .i64 0), 1, 8) := by kernel_rfl
theorem info44 : (Yba.prog.info? 44).map (fun i => (i.zero, i.size, i.bytes)) = some (some (.slice none 0 0), 1, 24) := by kernel_rfl

theorem mk49 (n : Nat) (h : n ≤ 4096) : ∃ C : Array Value, C.size = n ∧ (∀ j, j < n → C[j]? = some (.int .i64 0)) ∧
    ∀ w, (Instr.makeSlice 49 (.int .i64 (n : Int)) (.int .i64 (n : Int))).run Yba.prog w = .ok (.slice (some ⟨w.heap.size, 0, none⟩) n n) (w.alloc (.cells C 3)) := by
  obtain ⟨i0, hi, hz0, hz1, hz2⟩ := info_parts info3
  refine ⟨madeCells #[.int .i64 0] n, size_madeCells _ _, fun j hj => ?_, fun w => ?_⟩
  · rw [← Array.getElem?_toList, toList_madeCells_one]; simp [hj]
  · have := run_make (P := Yba.prog) w 49 3 i0 (.int .i64 0) Yba.underlying49 hi hz0 .i64 .i64 n n (by omega) (by omega) (by rw [hz2]; omega) (by omega)
    rw [hz1] at this
    simpa [Value.cells] using this
theorem mk50 (n : Nat) (h : n ≤ 4096) : ∃ C : Array Value, C.size = n ∧ (∀ j, j < n → C[j]? = some (.slice none 0 0)) ∧
    ∀ w, (Instr.makeSlice 50 (.int .i64 (n : Int)) (.int .i64 (n : Int))).run Yba.prog w = .ok (.slice (some ⟨w.heap.size, 0, none⟩) n n) (w.alloc (.cells C 44)) := by
  obtain ⟨i0, hi, hz0, hz1, hz2⟩ := info_parts info44
  refine ⟨madeCells #[.slice none 0 0] n, size_madeCells _ _, fun j hj => ?_, fun w => ?_⟩
  · rw [← Array.getElem?_toList, toList_madeCells_one]; simp [hj]
  · have := run_make (P := Yba.prog) w 50 44 i0 (.slice none 0 0) Yba.underlying50 hi hz0 .i64 .i64 n n (by omega) (by omega) (by rw [hz2]; omega) (by omega)
    rw [hz1] at this
    simpa [Value.cells] using this

/-- What NewPaths leaves: the struct at block b, its two rows at bp and bk. -/
structure Made (w w' : World) (B n pn : Nat) (bud : Int) (b bp bk : Nat) : Prop where
  lt : b < w'.heap.size
  c0 : w'.cell? ⟨b, 0, none⟩ = some (.pointer (some ⟨B, 0, none⟩))
  c1 : w'.cell? ⟨b, 1, none⟩ = some (.slice (some ⟨bp, 0, none⟩) pn pn)
  c2 : w'.cell? ⟨b, 2, none⟩ = some (.slice none 0 0)
  c3 : w'.cell? ⟨b, 3, none⟩ = some (.slice none 0 0)
  c4 : w'.cell? ⟨b, 4, none⟩ = some (.slice (some ⟨bk, 0, none⟩) n n)
  c5 : w'.cell? ⟨b, 5, none⟩ = some (.int .i64 bud)
  c6 : w'.cell? ⟨b, 6, none⟩ = some (.slice none 0 0)
  c7 : w'.cell? ⟨b, 7, none⟩ = some (.int .i64 0)
  c8 : w'.cell? ⟨b, 8, none⟩ = some (.slice none 0 0)
  c9 : w'.cell? ⟨b, 9, none⟩ = some (.int .i64 0)
  path : ∀ j, j < pn → w'.cell? ⟨bp, j, none⟩ = some (.int .i64 0)
  kept : ∀ j, j < n → w'.cell? ⟨bk, j, none⟩ = some (.slice none 0 0)
  below : Below w.heap.size w w'

theorem cell_first (w : World) (C : Array Value) (t : TypeId) (o1 o2 : Obj) (j : Nat) : (((w.alloc (.cells C t)).alloc o1).alloc o2).drew.cell? ⟨w.heap.size, j, none⟩ = C[j]? := by
  show (((w.alloc (.cells C t)).alloc o1).alloc o2).cell? ⟨w.heap.size, j, none⟩ = _
  rw [World.cell?_alloc_past _ _ _ (by simp; omega), World.cell?_alloc_past _ _ _ (by simp)]
  exact World.cell?_alloc_mark w C t _ j
theorem cell_second (w : World) (C : Array Value) (t : TypeId) (o0 o2 : Obj) (j : Nat) : (((w.alloc o0).alloc (.cells C t)).alloc o2).drew.cell? ⟨w.heap.size + 1, j, none⟩ = C[j]? := by
  show (((w.alloc o0).alloc (.cells C t)).alloc o2).cell? ⟨w.heap.size + 1, j, none⟩ = _
  rw [World.cell?_alloc_past _ _ _ (by simp)]
  have := World.cell?_alloc_mark (w.alloc o0) C t (0, 0) j
  rwa [World.size_alloc] at this
theorem cell_third (w : World) (C : Array Value) (t : TypeId) (o0 o1 : Obj) (j : Nat) : (((w.alloc o0).alloc o1).alloc (.cells C t)).drew.cell? ⟨w.heap.size + 1 + 1, j, none⟩ = C[j]? := by
  show (((w.alloc o0).alloc o1).alloc (.cells C t)).cell? ⟨w.heap.size + 1 + 1, j, none⟩ = _
  have := World.cell?_alloc_mark ((w.alloc o0).alloc o1) C t (0, 0) j
  rwa [World.size_alloc, World.size_alloc] at this
theorem below3 (w : World) (o0 o1 o2 : Obj) : Below w.heap.size w (((w.alloc o0).alloc o1).alloc o2).drew :=
  ((((Below.refl _ _).alloc (Nat.le_refl _) _).alloc (by simp) _).alloc (by simp; omega) _).drew

theorem made1 (w : World) (B n pn : Nat) (bud : Int) (CP CK : Array Value) (hP : ∀ j, j < pn → CP[j]? = some (.int .i64 0)) (hK : ∀ j, j < n → CK[j]? = some (.slice none 0 0)) :
    Made w (((w.alloc (.cells CP 3)).alloc (.cells CK 44)).alloc (.cells #[.pointer (some ⟨B, 0, none⟩), .slice (some ⟨w.heap.size, 0, none⟩) pn pn, .slice none 0 0, .slice none 0 0, .slice (some ⟨w.heap.size + 1, 0, none⟩) n n, .int .i64 bud, .slice none 0 0, .int .i64 0, .slice none 0 0, .int .i64 0] 56)).drew
      B n pn bud (w.heap.size + 1 + 1) w.heap.size (w.heap.size + 1) where
  lt := by show w.heap.size + 1 + 1 < (((w.alloc _).alloc _).alloc _).heap.size; simp
  c0 := cell_third _ _ _ _ _ 0
  c1 := cell_third _ _ _ _ _ 1
  c2 := cell_third _ _ _ _ _ 2
  c3 := cell_third _ _ _ _ _ 3
  c4 := cell_third _ _ _ _ _ 4
  c5 := cell_third _ _ _ _ _ 5
  c6 := cell_third _ _ _ _ _ 6
  c7 := cell_third _ _ _ _ _ 7
  c8 := cell_third _ _ _ _ _ 8
  c9 := cell_third _ _ _ _ _ 9
  path := fun j hj => (cell_first _ _ _ _ _ j).trans (hP j hj)
  kept := fun j hj => (cell_second _ _ _ _ _ j).trans (hK j hj)
  below := below3 _ _ _ _
theorem made2 (w : World) (B n pn : Nat) (bud : Int) (CP CK : Array Value) (hP : ∀ j, j < pn → CP[j]? = some (.int .i64 0)) (hK : ∀ j, j < n → CK[j]? = some (.slice none 0 0)) :
    Made w (((w.alloc (.cells CK 44)).alloc (.cells CP 3)).alloc (.cells #[.pointer (some ⟨B, 0, none⟩), .slice (some ⟨w.heap.size + 1, 0, none⟩) pn pn, .slice none 0 0, .slice none 0 0, .slice (some ⟨w.heap.size, 0, none⟩) n n, .int .i64 bud, .slice none 0 0, .int .i64 0, .slice none 0 0, .int .i64 0] 56)).drew
      B n pn bud (w.heap.size + 1 + 1) (w.heap.size + 1) w.heap.size where
  lt := by show w.heap.size + 1 + 1 < (((w.alloc _).alloc _).alloc _).heap.size; simp
  c0 := cell_third _ _ _ _ _ 0
  c1 := cell_third _ _ _ _ _ 1
  c2 := cell_third _ _ _ _ _ 2
  c3 := cell_third _ _ _ _ _ 3
  c4 := cell_third _ _ _ _ _ 4
  c5 := cell_third _ _ _ _ _ 5
  c6 := cell_third _ _ _ _ _ 6
  c7 := cell_third _ _ _ _ _ 7
  c8 := cell_third _ _ _ _ _ 8
  c9 := cell_third _ _ _ _ _ 9
  path := fun j hj => (cell_second _ _ _ _ _ j).trans (hP j hj)
  kept := fun j hj => (cell_first _ _ _ _ _ j).trans (hK j hj)
  below := below3 _ _ _ _

/-- min(l, n - 1) + 1 -/
def pathLen (l : Int) (n : Nat) : Nat := if (n : Int) - 1 < l then n else (l + 1).toNat
def budget (el : Nat) : Int := if 2 * (el : Int) < 2097152 then 2097152 else 2 * (el : Int)

set_option maxHeartbeats 1000000 in
theorem new_any (B n el ec : Nat) (ea : Option Addr) (l : Int) (w : World) (hn : n ≤ 4096) (hl0 : -1 ≤ l) (hel : el ≤ 1048576)
    (hB : B < w.heap.size) (h0 : w.cell? ⟨B, 0, none⟩ = some (.int .i64 n)) (h3 : w.cell? ⟨B, 3, none⟩ = some (.slice ea el ec)) :
    Calls Yba.prog 14 #[.pointer (some ⟨B, 0, none⟩), .int .i64 l] w fun e w' => ∃ b bp bk, e = .returned (.pointer (some ⟨b, 0, none⟩)) ∧ Made w w' B n (pathLen l n) (budget el) b bp bk := by
  obtain ⟨bud, hbud⟩ : ∃ bud, (if 2 * (el : Int) < 2097152 then 2097152 else 2 * (el : Int)) = bud := ⟨_, rfl⟩
  have eb : budget el = bud := hbud
  rw [eb]
  clear eb
  by_cases hnl : (n : Int) - 1 < l
  · have e1 : pathLen l n = n := by unfold pathLen; rw [if_pos hnl]
    rw [e1]
    obtain ⟨CP, hP1, hP2, hP⟩ := mk49 n (by omega)
    obtain ⟨CK, hK1, hK2, hK⟩ := mk50 n (by omega)
    have m1 := made1 w B n n bud CP CK hP2 hK2
    have m2 := made2 w B n n bud CP CK hP2 hK2
    have M1 : Hid _ := m1
    have M2 : Hid _ := m2
    clear hP1 hP2 hK1 hK2 m1 m2 e1
    go_enter Yba.func14, Yba.ntmps14
    go_wp2
    go_region
    · go_wp2
      go_ret
      exact ⟨_, _, _, rfl, M1⟩
    · go_wp2
      go_ret
      exact ⟨_, _, _, rfl, M2⟩
  · obtain ⟨pn, hpn⟩ : ∃ pn : Nat, l + 1 = (pn : Int) := ⟨(l + 1).toNat, by omega⟩
    have e1 : pathLen l n = pn := by unfold pathLen; rw [if_neg hnl]; omega
    rw [e1]
    obtain ⟨CP, hP1, hP2, hP⟩ := mk49 pn (by omega)
    obtain ⟨CK, hK1, hK2, hK⟩ := mk50 n (by omega)
    have m1 := made1 w B n pn bud CP CK hP2 hK2
    have m2 := made2 w B n pn bud CP CK hP2 hK2
    have M1 : Hid _ := m1
    have M2 : Hid _ := m2
    clear hP1 hP2 hK1 hK2 m1 m2 e1
    go_enter Yba.func14, Yba.ntmps14
    go_wp2
    go_region
    · go_wp2
      go_ret
      exact ⟨_, _, _, rfl, M1⟩
    · go_wp2
      go_ret
      exact ⟨_, _, _, rfl, M2⟩
end Go.Proofs.Ybulkdadw.Shape
