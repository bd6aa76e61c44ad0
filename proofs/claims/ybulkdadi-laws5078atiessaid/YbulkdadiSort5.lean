/-
  sort.choosePivot_func (37) AT THIS DUMP, at 13 elements or more.
-/
import Derived.Test.YbulkdadiSort4
namespace Go.Proofs.Ybulkdadi.Srt
open Go.ChangeShapes Go.WideShapes Go.ChangeAt Go.RowKit Go.Sort Go.Lib

def hintV : Hint → Int
  | .unknown => 0
  | .increasing => 1
  | .decreasing => 2
/-- The hint that so many swaps tell. -/
def hintOf (t : Nat) : Hint := if t = 0 then .increasing else if t = 12 then .decreasing else .unknown

section
variable {w0 W : World} {blk n : Nat} {enc : Nat → Value} {lt : Nat → Nat → Bool} {lb sb : Array Value} {sf : Nat} {d : Array Nat} {S s : Nat}
theorem median_I (C : Ctx w0 blk n enc lt lb sf sb) (hs : Cnt w0 blk n enc d S s W) (a b c : Nat) (A B D : Int) (hA : A = a) (hB : B = b) (hD : D = c) (ha : a < n) (hb : b < n) (hc : c < n) (hsm : s ≤ 100) :
    Calls Yba.prog 46 #[.agg #[.func (.func 15) #[] lb, .func (.func sf) #[] sb], .int .i64 A, .int .i64 B, .int .i64 D, .pointer (some ⟨S, 0, none⟩)] W fun e w' =>
      ∃ x t, median lt d a b c s = (x, t) ∧ e = .returned (.int .i64 (x : Int)) ∧ x < n ∧ t ≤ s + 3 ∧ Pst w0 W w' blk n enc d S t := by
  subst hA hB hD; exact median_any C hs a b c ha hb hc hsm
theorem medianAdj_I (C : Ctx w0 blk n enc lt lb sf sb) (hs : Cnt w0 blk n enc d S s W) (a : Nat) (A : Int) (hA : A = a) (ha0 : 1 ≤ a) (ha : a + 1 < n) (hsm : s ≤ 100) :
    Calls Yba.prog 45 #[.agg #[.func (.func 15) #[] lb, .func (.func sf) #[] sb], .int .i64 A, .pointer (some ⟨S, 0, none⟩)] W fun e w' =>
      ∃ x t, medianAdjacent lt d a s = (x, t) ∧ e = .returned (.int .i64 (x : Int)) ∧ x < n ∧ t ≤ s + 3 ∧ Pst w0 W w' blk n enc d S t := by
  subst hA; exact medianAdj_any C hs a ha0 ha hsm
/-- The counter's block is new against W: so nothing of W has turned. -/
theorem pst_new {w1 w2 : World} {t : Nat} (h : Pst w0 w1 w2 blk n enc d (W.heap.size + 1) t) (hw : Below W.heap.size W w1) : W.grownBy w2 (some blk) :=
  ⟨h.2.os.trans hw.os, h.2.tape.trans hw.tape, h.2.output.trans hw.output, Nat.le_trans hw.size h.2.size, fun k hk _ => (h.2.block k (Nat.lt_of_lt_of_le hk hw.size) (by simp; omega)).trans (hw.block k hk)⟩
end

set_option maxHeartbeats 2000000 in
set_option maxRecDepth 100000 in
theorem choose_any {w0 W : World} {blk n : Nat} {enc : Nat → Value} {lt : Nat → Nat → Bool} {lb sb : Array Value} {sf : Nat} {d : Array Nat} (C : Ctx w0 blk n enc lt lb sf sb) (hs : St w0 blk n enc d W) (a b : Nat) (hab : a + 13 ≤ b) (hb : b ≤ n) :
    Calls Yba.prog 37 #[.agg #[.func (.func 15) #[] lb, .func (.func sf) #[] sb], .int .i64 (a : Int), .int .i64 (b : Int)] W fun e w' =>
      ∃ p h, choosePivot lt d a b = (p, h) ∧ e = .returned (.tuple #[.int .i64 (p : Int), .int .i64 (hintV h)]) ∧ W.grownBy w' (some blk) ∧ St w0 blk n enc d w' := by
  obtain ⟨l, hl⟩ : ∃ l, b - a = l := ⟨_, rfl⟩
  obtain ⟨q, hq⟩ : ∃ q, l / 4 = q := ⟨_, rfl⟩
  have hn := C.small
  have hblt := hs.blt C.blt
  have hi : ((b : Int) - a) / 4 = q := by omega
  have hlI : (b : Int) - a = l := by omega
  have hbx : Below W.heap.size W ((W.alloc (.cells #[.func (.func 15) #[] lb, .func (.func sf) #[] sb] 68)).alloc (.cells #[.int .i64 0] 3)) := ((Below.refl _ _).alloc (Nat.le_refl _) _).alloc (by simp) _
  have c1 : Cnt w0 blk n enc d (W.heap.size + 1) 0 ((W.alloc (.cells #[.func (.func 15) #[] lb, .func (.func sf) #[] sb] 68)).alloc (.cells #[.int .i64 0] 3)) :=
    ⟨hs.below C.blt hbx, Nat.le_succ_of_le hs.gr.size, by simp, by simp, by simp⟩
  have HC := hide C
  have HS := hide hs
  have HB := hide hbx
  clear hs C hbx
  by_cases h50 : 50 ≤ l
  · have HCP : ∀ x1 t1 x2 t2 x3 t3 x t, medianAdjacent lt d (a + q * 1) 0 = (x1, t1) → medianAdjacent lt d (a + q * 2) t1 = (x2, t2) → medianAdjacent lt d (a + q * 3) t2 = (x3, t3) → median lt d x1 x2 x3 t3 = (x, t) → choosePivot lt d a b = (x, hintOf t) := fun x1 t1 x2 t2 x3 t3 x t e1 e2 e3 e4 => by
      unfold choosePivot
      simp only [hl, hq]
      rw [if_pos (by omega), if_pos h50]
      simp only [e1, e2, e3, e4]
      rfl
    have HP := hide HCP
    clear HCP
    go_enter Yba.func37, Yba.ntmps37
    go_wp2_with fail
    refine (medianAdj_I (unhide HC) c1 (a + q * 1) _ (by omega) (by omega) (by omega) (by omega)).mono ?_
    rintro e w1 ⟨x1, t1, e1, rfl, hx1, ht1, p1, g1⟩
    have k1 : (w1.cell? ⟨W.heap.size, 0, none⟩ = some (.func (.func 15) #[] lb)) := g1.cell (by simp) (by simp)
    have k2 : (w1.cell? ⟨W.heap.size, 1, none⟩ = some (.func (.func sf) #[] sb)) := g1.cell (by simp) (by simp)
    have E1 := hide e1
    clear e1
    go_wp2_with fail
    refine (medianAdj_I (unhide HC) p1 (a + q * 2) _ (by omega) (by omega) (by omega) (by omega)).mono ?_
    rintro e w2 ⟨x2, t2, e2, rfl, hx2, ht2, p2, g2⟩
    have l1 : (w2.cell? ⟨W.heap.size, 0, none⟩ = some (.func (.func 15) #[] lb)) := g2.cell k1 (by simp)
    have l2 : (w2.cell? ⟨W.heap.size, 1, none⟩ = some (.func (.func sf) #[] sb)) := g2.cell k2 (by simp)
    have E2 := hide e2
    clear e2 k1 k2
    go_wp2_with fail
    refine (medianAdj_I (unhide HC) p2 (a + q * 3) _ (by omega) (by omega) (by omega) (by omega)).mono ?_
    rintro e w3 ⟨x3, t3, e3, rfl, hx3, ht3, p3, g3⟩
    have m1 : (w3.cell? ⟨W.heap.size, 0, none⟩ = some (.func (.func 15) #[] lb)) := g3.cell l1 (by simp)
    have m2 : (w3.cell? ⟨W.heap.size, 1, none⟩ = some (.func (.func sf) #[] sb)) := g3.cell l2 (by simp)
    have E3 := hide e3
    clear e3 l1 l2
    go_wp2_with fail
    refine (median_I (unhide HC) p3 x1 x2 x3 _ _ _ rfl rfl rfl hx1 hx2 hx3 (by omega)).mono ?_
    rintro e w4 ⟨x, t, e4, rfl, hx, ht, p4, g4⟩
    have EP := hide (unhide HP x1 t1 x2 t2 x3 t3 x t (unhide E1) (unhide E2) (unhide E3) e4)
    have g1 := grown_trans (grown_trans (grown_trans g1 g2) g3) g4
    have p1 := p4
    clear e4 p2 p3 p4 g2 g3 g4
    have ce := p1.ce
    have HZ := hide p1.st
    have HG := hide (pst_new ⟨p1, g1⟩ (unhide HB))
    clear p1 g1
    by_cases t0 : t = 0
    · subst t0
      go_wp2
      go_ret2
      exact ⟨x, .increasing, unhide EP, rfl, unhide HG, unhide HZ⟩
    · have b0 : ((t : Int) == 0) = false := beq_eq_false_iff_ne.2 (by omega)
      by_cases t12 : t = 12
      · subst t12
        clear t0
        go_wp2
        go_ret2
        exact ⟨x, .decreasing, unhide EP, rfl, unhide HG, unhide HZ⟩
      · have b12 : ((t : Int) == 12) = false := beq_eq_false_iff_ne.2 (by omega)
        have EP2 := hide (show choosePivot lt d a b = (x, .unknown) by rw [unhide EP]; unfold hintOf; rw [if_neg t0, if_neg t12])
        clear t0 t12
        go_wp2
        go_ret2
        exact ⟨x, .unknown, unhide EP2, rfl, unhide HG, unhide HZ⟩
  · have HCP : ∀ x t, median lt d (a + q * 1) (a + q * 2) (a + q * 3) 0 = (x, t) → choosePivot lt d a b = (x, hintOf t) := fun x t e => by
      unfold choosePivot
      simp only [hl, hq]
      rw [if_pos (by omega), if_neg h50, e]
      rfl
    have HP := hide HCP
    clear HCP
    go_enter Yba.func37, Yba.ntmps37
    go_wp2_with fail
    refine (median_I (unhide HC) c1 (a + q * 1) (a + q * 2) (a + q * 3) _ _ _ (by omega) (by omega) (by omega) (by omega) (by omega) (by omega) (by omega)).mono ?_
    rintro e w1 ⟨x, t, e1, rfl, hx, ht, p1, g1⟩
    have EP := hide (unhide HP x t e1)
    clear e1
    have ce := p1.ce
    have HZ := hide p1.st
    have HG := hide (pst_new ⟨p1, g1⟩ (unhide HB))
    clear p1 g1
    by_cases t0 : t = 0
    · subst t0
      go_wp2
      go_ret2
      exact ⟨x, .increasing, unhide EP, rfl, unhide HG, unhide HZ⟩
    · have b0 : ((t : Int) == 0) = false := beq_eq_false_iff_ne.2 (by omega)
      by_cases t12 : t = 12
      · subst t12
        clear t0
        go_wp2
        go_ret2
        exact ⟨x, .decreasing, unhide EP, rfl, unhide HG, unhide HZ⟩
      · have b12 : ((t : Int) == 12) = false := beq_eq_false_iff_ne.2 (by omega)
        have EP2 := hide (show choosePivot lt d a b = (x, .unknown) by rw [unhide EP]; unfold hintOf; rw [if_neg t0, if_neg t12])
        clear t0 t12
        go_wp2
        go_ret2
        exact ⟨x, .unknown, unhide EP2, rfl, unhide HG, unhide HZ⟩
end Go.Proofs.Ybulkdadi.Srt
