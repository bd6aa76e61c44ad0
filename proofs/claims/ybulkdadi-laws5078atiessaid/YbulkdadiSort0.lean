/-
  THE SORT's FAMILY AT THIS DUMP, FOR A 'less' THAT LAYS BLOCKS: the words of the walks. (The guide's shelf has sort.Slice for a 'less' that only reads; here time.Time's methods box their receivers.)
-/
import Derived.Test.YbulkdadiRows
import Derived.WalkKit
import Derived.ProofKit
import Derived.WalkLawsBesides
import Derived.WalkSpells
import Derived.Below
import Derived.Shelf.GgSortFunc.Whole
namespace Go.Proofs.Ybulkdadi.Srt
open Go.ChangeShapes Go.WideShapes Go.ChangeAt Go.RowKit Go.Sort Go.Lib

theorem hide {p : Prop} (h : p) : Hid p := h
theorem unhide {p : Prop} (h : Hid p) : p := h

variable {w0 W wr w' : World} {blk n : Nat} {enc : Nat → Value} {lt : Nat → Nat → Bool} {lb sb : Array Value} {sf : Nat} {d dk : Array Nat}

/-- The row holds dk; below w0's blocks nothing but the row has turned. -/
structure St (w0 : World) (blk n : Nat) (enc : Nat → Value) (dk : Array Nat) (W : World) : Prop where
  gr : w0.grownBy W (some blk)
  ho : Holds enc W blk 0 dk
  sz : dk.size = n

/-- What the family is told once: of the row, of 'less' (function 15, bound to lb), of 'swap' (function sf, bound to sb). -/
structure Ctx (w0 : World) (blk n : Nat) (enc : Nat → Value) (lt : Nat → Nat → Bool) (lb : Array Value) (sf : Nat) (sb : Array Value) : Prop where
  blt : blk < w0.heap.size
  small : n ≤ 4096
  less : ∀ (W : World) (dk : Array Nat), St w0 blk n enc dk W → ∀ i j, i < n → j < n →
    Calls Yba.prog 15 (#[.int .i64 (i : Int), .int .i64 (j : Int)] ++ lb) W fun e w' => e = .returned (.bool (lt dk[i]! dk[j]!)) ∧ Below W.heap.size W w'
  swap : SwapSwaps Yba.prog sf sb enc blk 0 n

theorem grown_below {W w' : World} (h : Below W.heap.size W w') (row : Option Nat) : W.grownBy w' row := ⟨h.os, h.tape, h.output, h.size, fun k hk _ => h.block k hk⟩
theorem grown_trans {a b c : World} {row : Option Nat} (h : a.grownBy b row) (k : b.grownBy c row) : a.grownBy c row :=
  ⟨k.os.trans h.os, k.tape.trans h.tape, k.output.trans h.output, Nat.le_trans h.size k.size, fun i hi hr => (k.block i (Nat.lt_of_lt_of_le hi h.size) hr).trans (h.block i hi hr)⟩
theorem grown_refl (w : World) (row : Option Nat) : w.grownBy w row := ⟨rfl, rfl, rfl, Nat.le_refl _, fun _ _ _ => rfl⟩

theorem holds_below {W w' : World} {dk : Array Nat} (h : Holds enc W blk 0 dk) (hb : Below W.heap.size W w') (hl : blk < W.heap.size) : Holds enc w' blk 0 dk := fun j hj =>
  ⟨(hb.cell (p := ⟨blk, 0 + j, none⟩) hl).trans (h j hj).1, (hb.frozen (p := ⟨blk, 0 + j, none⟩) hl).trans (h j hj).2⟩

theorem St.blt (h : St w0 blk n enc dk W) (hl : blk < w0.heap.size) : blk < W.heap.size := Nat.lt_of_lt_of_le hl h.gr.size
theorem St.below (h : St w0 blk n enc dk W) (hl : blk < w0.heap.size) (hb : Below W.heap.size W w') : St w0 blk n enc dk w' :=
  ⟨grown_trans h.gr (grown_below hb _), holds_below h.ho hb (h.blt hl), h.sz⟩

/-- A swap's two stores. -/
def swapped (enc : Nat → Value) (blk : Nat) (W : World) (dk : Array Nat) (i j : Nat) : World := (W.setCell ⟨blk, 0 + i, none⟩ (enc dk[j]!)).setCell ⟨blk, 0 + j, none⟩ (enc dk[i]!)
theorem grown_swapped (W : World) (dk : Array Nat) (i j : Nat) : W.grownBy (swapped enc blk W dk i j) (some blk) :=
  ⟨rfl, rfl, rfl, by simp [swapped, World.setCell], fun k hk hr => by
    unfold swapped
    rw [Below.heap_setCell _ _ _ _ (fun e => hr (by rw [e])), Below.heap_setCell _ _ _ _ (fun e => hr (by rw [e]))]⟩
theorem holds_swapped (h : Holds enc W blk 0 dk) (i j : Nat) (hi : i < dk.size) (hj : j < dk.size) : Holds enc (swapped enc blk W dk i j) blk 0 (swp dk i j) := by
  intro k hk
  rw [size_swp] at hk
  have hc := h k hk
  have hci := h i hi
  have hcj := h j hj
  unfold swapped
  refine ⟨?_, by rw [World.frozen?_setCell, World.frozen?_setCell]; exact hc.2⟩
  by_cases hkj : k = j
  · subst hkj
    rw [swp_right dk i k hj]
    obtain ⟨v, hv⟩ := cell?_setCell_some (w := W) (p := ⟨blk, 0 + i, none⟩) (x := enc dk[k]!) hcj.1
    exact World.cell?_setCell_same _ _ _ hv
  · rw [World.cell?_setCell_other _ _ _ _ (by intro e; injection e; omega)]
    by_cases hki : k = i
    · subst hki
      rw [swp_left dk k j hi (by omega)]
      exact World.cell?_setCell_same _ _ _ hci.1
    · rw [swp_other dk i j k hki hkj, World.cell?_setCell_other _ _ _ _ (by intro e; injection e; omega)]
      exact hc.1
theorem St.swap (h : St w0 blk n enc dk W) (i j : Nat) (hi : i < n) (hj : j < n) : St w0 blk n enc (swp dk i j) (swapped enc blk W dk i j) :=
  ⟨grown_trans h.gr (grown_swapped W dk i j), holds_swapped h.ho i j (by rw [h.sz]; exact hi) (by rw [h.sz]; exact hj), by rw [size_swp]; exact h.sz⟩

/-- A function of the family at work, called in W: it has boxed 'data' at block B. -/
structure In (w0 : World) (blk n : Nat) (enc : Nat → Value) (lb : Array Value) (sf : Nat) (sb : Array Value) (W : World) (B : Nat) (dk : Array Nat) (wr : World) : Prop where
  gr : W.grownBy wr (some blk)
  st : St w0 blk n enc dk wr
  bl : B < wr.heap.size
  bn : B ≠ blk
  c0 : wr.cell? ⟨B, 0, none⟩ = some (.func (.func 15) #[] lb)
  c1 : wr.cell? ⟨B, 1, none⟩ = some (.func (.func sf) #[] sb)

theorem In.below {B : Nat} (h : In w0 blk n enc lb sf sb W B dk wr) (hl : blk < w0.heap.size) (hb : Below wr.heap.size wr w') : In w0 blk n enc lb sf sb W B dk w' :=
  ⟨grown_trans h.gr (grown_below hb _), h.st.below hl hb, Nat.lt_of_lt_of_le h.bl hb.size, h.bn, (hb.cell (p := ⟨B, 0, none⟩) h.bl).trans h.c0, (hb.cell (p := ⟨B, 1, none⟩) h.bl).trans h.c1⟩
theorem In.swap {B : Nat} (h : In w0 blk n enc lb sf sb W B dk wr) (i j : Nat) (hi : i < n) (hj : j < n) : In w0 blk n enc lb sf sb W B (swp dk i j) (swapped enc blk wr dk i j) := by
  have hg := grown_swapped (enc := enc) (blk := blk) wr dk i j
  have hne : some B ≠ some blk := fun e => h.bn (Option.some.inj e)
  exact ⟨grown_trans h.gr hg, h.st.swap i j hi hj, Nat.lt_of_lt_of_le h.bl hg.size, h.bn, hg.cell h.c0 hne, hg.cell h.c1 hne⟩
/-- Behind a fellow's call: it has turned the row alone. -/
theorem In.call {B : Nat} {dk' : Array Nat} (h : In w0 blk n enc lb sf sb W B dk wr) (hg : wr.grownBy w' (some blk)) (hs : St w0 blk n enc dk' w') : In w0 blk n enc lb sf sb W B dk' w' := by
  have hne : some B ≠ some blk := fun e => h.bn (Option.some.inj e)
  exact ⟨grown_trans h.gr hg, hs, Nat.lt_of_lt_of_le h.bl hg.size, h.bn, hg.cell h.c0 hne, hg.cell h.c1 hne⟩
/-- At the head: 'data' has just been boxed. -/
theorem In.start (hs : St w0 blk n enc dk W) (hl : blk < w0.heap.size) : In w0 blk n enc lb sf sb W W.heap.size dk (W.alloc (.cells #[.func (.func 15) #[] lb, .func (.func sf) #[] sb] 68)) :=
  ⟨World.grownBy_alloc _ _ _, hs.below hl ((Below.refl _ _).alloc (Nat.le_refl _) _), by simp, by have := hs.blt hl; omega, by simp, by simp⟩

theorem Ctx.lessAt (C : Ctx w0 blk n enc lt lb sf sb) {B : Nat} (h : In w0 blk n enc lb sf sb W B dk wr) (i j : Nat) (hi : i < n) (hj : j < n) :
    Calls Yba.prog 15 (#[.int .i64 (i : Int), .int .i64 (j : Int)] ++ lb) wr fun e w' => e = .returned (.bool (lt dk[i]! dk[j]!)) ∧ In w0 blk n enc lb sf sb W B dk w' :=
  (C.less wr dk h.st i j hi hj).mono fun _ _ ⟨he, hb⟩ => ⟨he, h.below C.blt hb⟩
theorem Ctx.swapAt (C : Ctx w0 blk n enc lt lb sf sb) {B : Nat} (h : In w0 blk n enc lb sf sb W B dk wr) (i j : Nat) (hi : i < n) (hj : j < n) :
    (callFunc sf (#[.int .i64 (i : Int), .int .i64 (j : Int)] ++ sb)).run Yba.prog wr = .ok (.value (.tuple #[])) (swapped enc blk wr dk i j) ∧ In w0 blk n enc lb sf sb W B (swp dk i j) (swapped enc blk wr dk i j) :=
  ⟨C.swap wr dk h.st.ho h.st.sz i j hi hj, h.swap i j hi hj⟩

/-- The same, the indices as the walk writes them. -/
theorem Ctx.lessI (C : Ctx w0 blk n enc lt lb sf sb) {B : Nat} (h : In w0 blk n enc lb sf sb W B dk wr) (i j : Nat) (I J : Int) (hI : I = i) (hJ : J = j) (hi : i < n) (hj : j < n) :
    Calls Yba.prog 15 (#[.int .i64 I, .int .i64 J] ++ lb) wr fun e w' => e = .returned (.bool (lt dk[i]! dk[j]!)) ∧ In w0 blk n enc lb sf sb W B dk w' := by
  subst hI hJ; exact C.lessAt h i j hi hj
theorem Ctx.lessB (C : Ctx w0 blk n enc lt lb sf sb) {B : Nat} (h : In w0 blk n enc lb sf sb W B dk wr) (i j : Nat) (b : Bool) (hl : lt dk[i]! dk[j]! = b) (I J : Int) (hI : I = i) (hJ : J = j) (hi : i < n) (hj : j < n) :
    Calls Yba.prog 15 (#[.int .i64 I, .int .i64 J] ++ lb) wr fun e w' => e = .returned (.bool b) ∧ In w0 blk n enc lb sf sb W B dk w' := by
  subst hI hJ hl; exact C.lessAt h i j hi hj
theorem Ctx.swapI (C : Ctx w0 blk n enc lt lb sf sb) {B : Nat} (h : In w0 blk n enc lb sf sb W B dk wr) (i j : Nat) (I J : Int) (hI : I = i) (hJ : J = j) (hi : i < n) (hj : j < n) :
    ∃ w1, (callFunc sf (#[.int .i64 I, .int .i64 J] ++ sb)).run Yba.prog wr = .ok (.value (.tuple #[])) w1 ∧ In w0 blk n enc lb sf sb W B (swp dk i j) w1 := by
  subst hI hJ; exact ⟨_, (C.swapAt h i j hi hj).1, (C.swapAt h i j hi hj).2⟩
end Go.Proofs.Ybulkdadi.Srt
