/-
  sort.order2_func (47), median_func (46), medianAdjacent_func (45) AND choosePivot_func (37) AT THIS DUMP.
-/
import Derived.Test.YbulkdadiSort0
namespace Go.Proofs.Ybulkdadi.Srt
open Go.ChangeShapes Go.WideShapes Go.ChangeAt Go.RowKit Go.Sort Go.Lib

/-- The counter 'swaps' lies at block S and holds s. -/
structure Cnt (w0 : World) (blk n : Nat) (enc : Nat → Value) (d : Array Nat) (S s : Nat) (W : World) : Prop where
  st : St w0 blk n enc d W
  lo : w0.heap.size ≤ S
  lt : S < W.heap.size
  ce : W.cell? ⟨S, 0, none⟩ = some (.int .i64 (s : Int))
  fr : W.frozen? ⟨S, 0, none⟩ = false

section
variable {w0 W w' : World} {blk n : Nat} {enc : Nat → Value} {lt : Nat → Nat → Bool} {lb sb : Array Value} {sf : Nat} {d : Array Nat} {S s : Nat}

theorem Cnt.below (h : Cnt w0 blk n enc d S s W) (hl : blk < w0.heap.size) (hb : Below W.heap.size W w') : Cnt w0 blk n enc d S s w' :=
  ⟨h.st.below hl hb, h.lo, Nat.lt_of_lt_of_le h.lt hb.size, (hb.cell (p := ⟨S, 0, none⟩) h.lt).trans h.ce, (hb.frozen (p := ⟨S, 0, none⟩) h.lt).trans h.fr⟩
theorem Cnt.store (h : Cnt w0 blk n enc d S s W) (hl : blk < w0.heap.size) (t : Nat) : Cnt w0 blk n enc d S t (W.setCell ⟨S, 0, none⟩ (.int .i64 (t : Int))) := by
  have hlo := h.lo
  have hg := h.st.gr
  refine ⟨⟨⟨hg.os, hg.tape, hg.output, by simpa [World.setCell] using hg.size, fun k hk hr => ?_⟩, fun j hj => ?_, h.st.sz⟩, hlo, by simpa [World.setCell] using h.lt, World.cell?_setCell_same _ _ _ h.ce, by rw [World.frozen?_setCell]; exact h.fr⟩
  · rw [Below.heap_setCell _ _ _ _ (by show k ≠ S; omega)]; exact hg.block k hk hr
  · have hh := h.st.ho j hj
    exact ⟨by rw [World.cell?_setCell_other _ _ _ _ (by intro e; injection e; omega)]; exact hh.1, by rw [World.frozen?_setCell]; exact hh.2⟩
theorem grown_store (W : World) (S : Nat) (v : Value) : W.grownBy (W.setCell ⟨S, 0, none⟩ v) (some S) :=
  ⟨rfl, rfl, rfl, by simp [World.setCell], fun k hk hr => Below.heap_setCell _ _ _ _ (fun e => hr (by rw [e]))⟩
end

/-- What a call of the family that only counts leaves. -/
def Pst (w0 W w' : World) (blk n : Nat) (enc : Nat → Value) (d : Array Nat) (S t : Nat) : Prop := Cnt w0 blk n enc d S t w' ∧ W.grownBy w' (some S)

set_option maxHeartbeats 1000000 in
set_option maxRecDepth 100000 in
theorem order2_any {w0 W : World} {blk n : Nat} {enc : Nat → Value} {lt : Nat → Nat → Bool} {lb sb : Array Value} {sf : Nat} {d : Array Nat} {S s : Nat} (C : Ctx w0 blk n enc lt lb sf sb) (hs : Cnt w0 blk n enc d S s W) (a b : Nat) (ha : a < n) (hb : b < n) (hsm : s ≤ 1000) :
    Calls Yba.prog 47 #[.agg #[.func (.func 15) #[] lb, .func (.func sf) #[] sb], .int .i64 (a : Int), .int .i64 (b : Int), .pointer (some ⟨S, 0, none⟩)] W fun e w' =>
      ∃ x y t, order2 lt d a b s = (x, y, t) ∧ e = .returned (.tuple #[.int .i64 (x : Int), .int .i64 (y : Int)]) ∧ x < n ∧ y < n ∧ t ≤ s + 1 ∧ Pst w0 W w' blk n enc d S t := by
  have hbx : Below W.heap.size W (W.alloc (.cells #[.func (.func 15) #[] lb, .func (.func sf) #[] sb] 68)) := (Below.refl _ _).alloc (Nat.le_refl _) _
  have hs1 := hs.below C.blt hbx
  have hl := C.less _ d hs1.st b a hb ha
  have hbl := C.blt
  cases hlv : lt d[b]! d[a]! with
  | true =>
    rw [hlv] at hl
    have HL := hide hl
    have H1 := hide hs1
    have HO := hide (show order2 lt d a b s = (b, a, s + 1) by unfold order2; rw [if_pos hlv])
    clear hl hlv hs1 hs C hbx
    go_enter Yba.func47, Yba.ntmps47
    go_wp2_with fail
    refine (unhide HL).mono ?_
    rintro e w1 ⟨rfl, hb1⟩
    have h2 := (unhide H1).below hbl hb1
    have ce := h2.ce
    have fr := h2.fr
    have HP := hide (show Pst w0 W (w1.setCell ⟨S, 0, none⟩ (.int .i64 (((s + 1 : Nat)) : Int))) blk n enc d S (s + 1) from ⟨h2.store hbl (s + 1), grown_trans (grown_trans (World.grownBy_alloc _ _ _) (grown_below hb1 _)) (grown_store _ _ _)⟩)
    rw [show (((s + 1 : Nat)) : Int) = (s : Int) + 1 from by omega] at HP
    clear h2 hb1
    go_wp2
    go_ret2
    exact ⟨b, a, s + 1, unhide HO, rfl, hb, ha, Nat.le_refl _, unhide HP⟩
  | false =>
    rw [hlv] at hl
    have HL := hide hl
    have H1 := hide hs1
    have HO := hide (show order2 lt d a b s = (a, b, s) by unfold order2; rw [if_neg (by rw [hlv]; simp)])
    clear hl hlv hs1 hs C hbx
    go_enter Yba.func47, Yba.ntmps47
    go_wp2_with fail
    refine (unhide HL).mono ?_
    rintro e w1 ⟨rfl, hb1⟩
    go_wp2
    go_ret2
    exact ⟨a, b, s, unhide HO, rfl, ha, hb, Nat.le_succ _, (unhide H1).below hbl hb1, grown_trans (World.grownBy_alloc _ _ _) (grown_below hb1 _)⟩

set_option maxHeartbeats 1000000 in
set_option maxRecDepth 100000 in
theorem median_any {w0 W : World} {blk n : Nat} {enc : Nat → Value} {lt : Nat → Nat → Bool} {lb sb : Array Value} {sf : Nat} {d : Array Nat} {S s : Nat} (C : Ctx w0 blk n enc lt lb sf sb) (hs : Cnt w0 blk n enc d S s W) (a b c : Nat) (ha : a < n) (hb : b < n) (hc : c < n) (hsm : s ≤ 100) :
    Calls Yba.prog 46 #[.agg #[.func (.func 15) #[] lb, .func (.func sf) #[] sb], .int .i64 (a : Int), .int .i64 (b : Int), .int .i64 (c : Int), .pointer (some ⟨S, 0, none⟩)] W fun e w' =>
      ∃ x t, median lt d a b c s = (x, t) ∧ e = .returned (.int .i64 (x : Int)) ∧ x < n ∧ t ≤ s + 3 ∧ Pst w0 W w' blk n enc d S t := by
  have hbx : Below W.heap.size W (W.alloc (.cells #[.func (.func 15) #[] lb, .func (.func sf) #[] sb] 68)) := (Below.refl _ _).alloc (Nat.le_refl _) _
  have hs1 := hs.below C.blt hbx
  have hSW := hs.lt
  have HC := hide C
  clear hs hbx C
  go_enter Yba.func46, Yba.ntmps46
  go_wp2_with fail
  refine (order2_any (unhide HC) hs1 a b ha hb (by omega)).mono ?_
  rintro e w1 ⟨x1, y1, t1, e1, rfl, hx1, hy1, ht1, p1, g1⟩
  have k1 : (w1.cell? ⟨W.heap.size, 0, none⟩ = some (.func (.func 15) #[] lb)) := g1.cell (by simp) (by simp; omega)
  have k2 : (w1.cell? ⟨W.heap.size, 1, none⟩ = some (.func (.func sf) #[] sb)) := g1.cell (by simp) (by simp; omega)
  have E1 := hide e1
  clear e1
  go_wp2_with fail
  refine (order2_any (unhide HC) p1 y1 c hy1 hc (by omega)).mono ?_
  rintro e w2 ⟨x2, y2, t2, e2, rfl, hx2, hy2, ht2, p2, g2⟩
  have l1 : (w2.cell? ⟨W.heap.size, 0, none⟩ = some (.func (.func 15) #[] lb)) := g2.cell k1 (by simp; omega)
  have l2 : (w2.cell? ⟨W.heap.size, 1, none⟩ = some (.func (.func sf) #[] sb)) := g2.cell k2 (by simp; omega)
  have E2 := hide e2
  clear e2 k1 k2
  go_wp2_with fail
  refine (order2_any (unhide HC) p2 x1 x2 hx1 hx2 (by omega)).mono ?_
  rintro e w3 ⟨x3, y3, t3, e3, rfl, hx3, hy3, ht3, p3, g3⟩
  have E3 := hide e3
  clear e3
  go_wp2
  go_ret
  refine ⟨y3, t3, ?_, rfl, hy3, by omega, p3, grown_trans (grown_trans (grown_trans (World.grownBy_alloc _ _ _) g1) g2) g3⟩
  unfold median
  simp only [unhide E1, unhide E2, unhide E3]

set_option maxHeartbeats 1000000 in
set_option maxRecDepth 100000 in
theorem medianAdj_any {w0 W : World} {blk n : Nat} {enc : Nat → Value} {lt : Nat → Nat → Bool} {lb sb : Array Value} {sf : Nat} {d : Array Nat} {S s : Nat} (C : Ctx w0 blk n enc lt lb sf sb) (hs : Cnt w0 blk n enc d S s W) (a : Nat) (ha0 : 1 ≤ a) (ha : a + 1 < n) (hsm : s ≤ 100) :
    Calls Yba.prog 45 #[.agg #[.func (.func 15) #[] lb, .func (.func sf) #[] sb], .int .i64 (a : Int), .pointer (some ⟨S, 0, none⟩)] W fun e w' =>
      ∃ x t, medianAdjacent lt d a s = (x, t) ∧ e = .returned (.int .i64 (x : Int)) ∧ x < n ∧ t ≤ s + 3 ∧ Pst w0 W w' blk n enc d S t := by
  have hbx : Below W.heap.size W (W.alloc (.cells #[.func (.func 15) #[] lb, .func (.func sf) #[] sb] 68)) := (Below.refl _ _).alloc (Nat.le_refl _) _
  have hs1 := hs.below C.blt hbx
  have hn := C.small
  have HM := hide (median_any C hs1 (a - 1) a (a + 1) (by omega) (by omega) ha hsm)
  rw [show ((a - 1 : Nat) : Int) = (a : Int) - 1 from by omega, show ((a + 1 : Nat) : Int) = (a : Int) + 1 from by omega] at HM
  clear hs hs1 hbx C
  go_enter Yba.func45, Yba.ntmps45
  go_wp2_with fail
  refine (unhide HM).mono ?_
  rintro e w1 ⟨x1, t1, e1, rfl, hx1, ht1, p1, g1⟩
  have E1 := hide e1
  clear e1
  go_wp2
  go_ret
  exact ⟨x1, t1, unhide E1, rfl, hx1, ht1, p1, grown_trans (World.grownBy_alloc _ _ _) g1⟩
end Go.Proofs.Ybulkdadi.Srt
