/-
  THE CLOSURE OF sortByLastAccess (15), AT THIS DUMP: it lays blocks (time.Time's methods box their receivers).
-/
import Derived.Test.YbulkdadiSort0
import Derived.Test.YbulkdadiTime
import Derived.Deep.QuietTactic
import Derived.BigRegion
namespace Go.Proofs.Ybulkdadi.Ls
open Go.ChangeShapes Go.WideShapes Go.ChangeAt Go.RowKit Go.Sort Go.Lib Go.Proofs.Ybulkdadi.Srt Go.Proofs.Ybulkdadi.Tm

/-- A world that keeps what lies in w. -/
structure On (w : World) where
  v : World
  h : Below w.heap.size w v

instance {w : World} : Nonempty (On w) := ⟨⟨w, Below.refl _ _⟩⟩

theorem wp_region_quiet_on {P : Program} {id : Nat} {Q : Exit → Act → World → Prop} {a : Act} {w0 w : World} {l : List Oper} (hw : Below w0.heap.size w0 w) (hm : P.follows .mixedOrders = true) (hB : Region.lexB .any l.toArray = true)
    (h : wpQuiet P l.toArray (fun w' => ∃ p : On w0, w' = p.v) (fun a' => ∀ w', (∃ p : On w0, w' = p.v) → Q .normal a' w') l a) : (Code.region id l.toArray true).wp P Q a w :=
  wp_region_quiet (C := fun w' => ∃ p : On w0, w' = p.v) hm hB ⟨⟨_, hw.drew⟩, rfl⟩ (by simpa using h)
theorem On.cell {w : World} {a : Addr} {v : Value} (hb : a.block < w.heap.size) (h : w.cell? a = some v) (p : On w) : p.v.cell? a = some v := (p.h.cell hb).trans h
theorem On.calls {P : Program} {f : FuncId} {args : Array Value} {w : World} {v : Value} (p : On w)
    (h : Calls P f args p.v fun e w' => e = .returned v ∧ Below p.v.heap.size p.v w') : Calls P f args p.v fun e w'' => e = .returned v ∧ ∃ p : On w, w'' = p.v :=
  h.mono fun _ w' ⟨he, hb⟩ => ⟨he, ⟨w', p.h.trans (hb.mono p.h.size)⟩, rfl⟩

/-- The order of the keys. -/
def ltK (t1 : Int) (b1 : ByteArray) (t2 : Int) (b2 : ByteArray) : Bool := if t1 = t2 then Op.bytesLess b1.toList b2.toList else decide (t1 < t2)

set_option maxHeartbeats 2000000 in
theorem less_any (w : World) (Bs blk n c i j p q : Nat) (t1 t2 : Int) (b1 b2 : ByteArray)
    (hBs : Bs < w.heap.size) (hblk : blk < w.heap.size) (hp : p < w.heap.size) (hq : q < w.heap.size) (hi : i < n) (hj : j < n)
    (cs : w.cell? ⟨Bs, 0, none⟩ = some (.slice (some ⟨blk, 0, none⟩) n c))
    (ci : w.cell? ⟨blk, i, none⟩ = some (.pointer (some ⟨p, 0, none⟩))) (cj : w.cell? ⟨blk, j, none⟩ = some (.pointer (some ⟨q, 0, none⟩)))
    (p0 : w.cell? ⟨p, 0, none⟩ = some (.string b1)) (p1 : w.cell? ⟨p, 12, none⟩ = some (.int .u64 (t1 % 1000000000))) (p2 : w.cell? ⟨p, 13, none⟩ = some (.int .i64 (t1 / 1000000000))) (p3 : w.cell? ⟨p, 14, none⟩ = some (.pointer none))
    (q0 : w.cell? ⟨q, 0, none⟩ = some (.string b2)) (q1 : w.cell? ⟨q, 12, none⟩ = some (.int .u64 (t2 % 1000000000))) (q2 : w.cell? ⟨q, 13, none⟩ = some (.int .i64 (t2 / 1000000000))) (q3 : w.cell? ⟨q, 14, none⟩ = some (.pointer none)) :
    Calls Yba.prog 15 #[.int .i64 (i : Int), .int .i64 (j : Int), .pointer (some ⟨Bs, 0, none⟩)] w fun e w' => e = .returned (.bool (ltK t1 b1 t2 b2)) ∧ Below w.heap.size w w' := by
  have hm : Yba.prog.follows .mixedOrders = true := by kernel_rfl
  have Ccs := On.cell (a := ⟨Bs, 0, none⟩) hBs cs
  have Cci := On.cell (a := ⟨blk, i, none⟩) hblk ci
  have Ccj := On.cell (a := ⟨blk, j, none⟩) hblk cj
  have Cp0 := On.cell (a := ⟨p, 0, none⟩) hp p0
  have Cp1 := On.cell (a := ⟨p, 12, none⟩) hp p1
  have Cp2 := On.cell (a := ⟨p, 13, none⟩) hp p2
  have Cp3 := On.cell (a := ⟨p, 14, none⟩) hp p3
  have Cq0 := On.cell (a := ⟨q, 0, none⟩) hq q0
  have Cq1 := On.cell (a := ⟨q, 12, none⟩) hq q1
  have Cq2 := On.cell (a := ⟨q, 13, none⟩) hq q2
  have Cq3 := On.cell (a := ⟨q, 14, none⟩) hq q3
  have e9 : ∀ p : World, Calls Yba.prog 9 #[tv (t1 % 1000000000) (t1 / 1000000000), tv (t2 % 1000000000) (t2 / 1000000000)] p fun e w' => e = .returned (.bool (decide (t1 = t2))) ∧ Below p.heap.size p w' := fun p => by
    have h := equal_any (t1 % 1000000000) (t1 / 1000000000) (t2 % 1000000000) (t2 / 1000000000) p (by omega) (by omega) (by omega) (by omega)
    have e : (t1 / 1000000000 == t2 / 1000000000 && t1 % 1000000000 == t2 % 1000000000) = decide (t1 = t2) := by
      rw [Bool.eq_iff_iff]; simp only [Bool.and_eq_true, beq_iff_eq, decide_eq_true_eq]; omega
    rw [e] at h; exact h
  have e16 : ∀ p : World, Calls Yba.prog 16 #[tv (t1 % 1000000000) (t1 / 1000000000), tv (t2 % 1000000000) (t2 / 1000000000)] p fun e w' => e = .returned (.bool (decide (t1 < t2))) ∧ Below p.heap.size p w' := fun p => by
    have h := before_any (t1 % 1000000000) (t1 / 1000000000) (t2 % 1000000000) (t2 / 1000000000) p (by omega) (by omega) (by omega) (by omega)
    have e : decide (t1 / 1000000000 < t2 / 1000000000 ∨ t1 / 1000000000 = t2 / 1000000000 ∧ t1 % 1000000000 < t2 % 1000000000) = decide (t1 < t2) := by
      rw [decide_eq_decide]; omega
    rw [e] at h; exact h
  unfold tv at e9 e16
  unfold ltK
  by_cases ht : t1 = t2
  · rw [if_pos ht]
    have hd : decide (t1 = t2) = true := by simp [ht]
    rw [hd] at e9
    have E9 : Hid _ := hide e9
    clear e9 e16 hd ht
    go_enter Yba.func15, Yba.ntmps15
    go_wp2
    refine wp_region_quiet_on (Below.refl _ w) hm (by kernel_rfl) ?_
    repeat (quiet_step (fail))
    refine wpQuiet_nil ?_
    rintro _ ⟨w2, rfl⟩
    go_wp2
    refine wp_region_quiet_on w2.h hm (by kernel_rfl) ?_
    repeat (quiet_step (exact On.calls _ (E9 _)))
    refine wpQuiet_nil ?_
    rintro _ ⟨w3, rfl⟩
    go_wp2
    refine wp_region_quiet_on w3.h hm (by kernel_rfl) ?_
    repeat (quiet_step (fail))
    refine wpQuiet_nil ?_
    rintro _ ⟨w4, rfl⟩
    go_wp2
    go_ret
    exact ⟨rfl, w4.h⟩
  · rw [if_neg ht]
    have hd : decide (t1 = t2) = false := by simp [ht]
    rw [hd] at e9
    have E9 : Hid _ := hide e9
    have E16 : Hid _ := hide e16
    clear e9 e16 hd ht
    go_enter Yba.func15, Yba.ntmps15
    go_wp2
    refine wp_region_quiet_on (Below.refl _ w) hm (by kernel_rfl) ?_
    repeat (quiet_step (fail))
    refine wpQuiet_nil ?_
    rintro _ ⟨w2, rfl⟩
    go_wp2
    refine wp_region_quiet_on w2.h hm (by kernel_rfl) ?_
    repeat (quiet_step (exact On.calls _ (E9 _)))
    refine wpQuiet_nil ?_
    rintro _ ⟨w3, rfl⟩
    go_wp2
    refine wp_region_quiet_on w3.h hm (by kernel_rfl) ?_
    repeat (quiet_step (exact On.calls _ (E16 _)))
    refine wpQuiet_nil ?_
    rintro _ ⟨w4, rfl⟩
    go_wp2
    go_ret
    exact ⟨rfl, w4.h⟩
end Go.Proofs.Ybulkdadi.Ls
