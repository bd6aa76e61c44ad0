/-
  THE SHELF's SORT LAID AT THIS DUMP; reverseRange_func (38), breakPatterns_func (36): the shelf's own contracts, in this seat's words.
-/
import Derived.Test.YbulkdadiSort0
import Derived.Shelf.Lay
import Derived.Ground.GgsProg
namespace Go.Proofs.Ybulkdadi
shelf_lay LaysGg.n6 Ggs 6 at Yba as Yba.sl6
end Go.Proofs.Ybulkdadi
namespace Go.Proofs.Ybulkdadi.Srt
open Go.ChangeShapes Go.WideShapes Go.ChangeAt Go.RowKit Go.Sort Go.Lib
variable {w0 W w' : World} {blk n : Nat} {enc : Nat → Value} {lt : Nat → Nat → Bool} {lb sb : Array Value} {sf : Nat} {d d' : Array Nat}

theorem St.of_sortWorld (hs : St w0 blk n enc d W) (hl : blk < w0.heap.size) (hd : d'.size = d.size) (h : ∃ m os, w' = sortWorld enc W blk 0 m d' os) : W.grownBy w' (some blk) ∧ St w0 blk n enc d' w' := by
  obtain ⟨m, os, rfl⟩ := h
  have hb := hs.blt hl
  have hg : W.grownBy (sortWorld enc W blk 0 m d' os) (some blk) := by
    refine ⟨rfl, rfl, rfl, by simp [sortWorld], fun k hk hne => ?_⟩
    unfold sortWorld
    rw [heap_grow_old _ _ (by simpa using hk)]
    have : blk ≠ k := fun e => hne (by rw [e])
    simp [putRow, mapBlock, Sort.ahead, Array.getElem?_modify, this]
  exact ⟨hg, grown_trans hs.gr hg, holds_sortWorld enc W blk 0 m d d' os hb hs.ho hd, by rw [hd]; exact hs.sz⟩

theorem rev_any (C : Ctx w0 blk n enc lt lb sf sb) (hs : St w0 blk n enc d W) (a b : Nat) (hab : a ≤ b) (hb : b ≤ n) :
    Calls Yba.prog 38 #[.agg #[.func (.func 15) #[] lb, .func (.func sf) #[] sb], .int .i64 (a : Int), .int .i64 (b : Int)] W fun e w' =>
      e = .returned (.tuple #[]) ∧ W.grownBy w' (some blk) ∧ St w0 blk n enc (reverseRange d a b) w' := by
  have hn := C.small
  have hsz := hs.sz
  have h := Any.reverseRange_func_w (P := Yba.prog) (ρ := Yba.sl6_ren) { Yba.sl6 with } enc (.func 15) #[] lb sf sb blk 0 a b d W (by rw [hs.sz]; exact C.swap) hs.ho (hs.blt C.blt) hab (by omega) (by omega)
  change Calls Yba.prog 38 _ _ _ at h
  exact h.mono fun _ _ ⟨he, hw⟩ => ⟨he, hs.of_sortWorld C.blt (reverseRange_holds d a b hab (by omega)).1 hw⟩
theorem brk_any (C : Ctx w0 blk n enc lt lb sf sb) (hs : St w0 blk n enc d W) (a b : Nat) (hab : a ≤ b) (hb : b ≤ n) :
    Calls Yba.prog 36 #[.agg #[.func (.func 15) #[] lb, .func (.func sf) #[] sb], .int .i64 (a : Int), .int .i64 (b : Int)] W fun e w' =>
      e = .returned (.tuple #[]) ∧ W.grownBy w' (some blk) ∧ St w0 blk n enc (breakPatterns d a b) w' := by
  have hn := C.small
  have hsz := hs.sz
  have h := Any.breakPatterns_func_w (P := Yba.prog) (ρ := Yba.sl6_ren) { Yba.sl6 with } enc (.func 15) #[] lb sf sb blk 0 a b d W (by rw [hs.sz]; exact C.swap) hs.ho (hs.blt C.blt) hab (by omega) (by omega)
  change Calls Yba.prog 36 _ _ _ at h
  exact h.mono fun _ _ ⟨he, hw⟩ => ⟨he, hs.of_sortWorld C.blt (breakPatterns_holds d a b hab (by omega)).1 hw⟩
end Go.Proofs.Ybulkdadi.Srt
