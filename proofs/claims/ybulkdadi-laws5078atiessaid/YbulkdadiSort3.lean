/-
  sort.heapSort_func (35) AT THIS DUMP.
-/
import Derived.Test.YbulkdadiSort2
namespace Go.Proofs.Ybulkdadi.Srt
open Go.ChangeShapes Go.WideShapes Go.ChangeAt Go.RowKit Go.Sort Go.Lib

set_option maxHeartbeats 2000000 in
set_option maxRecDepth 100000 in
theorem heap_any {w0 W : World} {blk n : Nat} {enc : Nat → Value} {lt : Nat → Nat → Bool} {lb sb : Array Value} {sf : Nat} {d : Array Nat} (C : Ctx w0 blk n enc lt lb sf sb) (hs : St w0 blk n enc d W) (a b : Nat) (hab : a < b) (hb : b ≤ n) :
    Calls Yba.prog 35 #[.agg #[.func (.func 15) #[] lb, .func (.func sf) #[] sb], .int .i64 (a : Int), .int .i64 (b : Int)] W fun e w' =>
      e = .returned (.tuple #[]) ∧ W.grownBy w' (some blk) ∧ St w0 blk n enc (heapSort lt d a b) w' := by
  have H0 := hide (In.start (lb := lb) (sf := sf) (sb := sb) hs C.blt)
  have hn : n ≤ 4096 := C.small
  have HC := hide C
  clear hs C
  go_enter Yba.func35, Yba.ntmps35
  go_wp2
  go_loopw [9] (fun v wr => ∃ (k : Nat) (dk : Array Nat), v = .int .i64 ((k : Int) - 1) ∧ k ≤ 4096 ∧ Hid (In w0 blk n enc lb sf sb W W.heap.size dk wr ∧ heapBuild lt (b - a) a k dk = heapBuild lt (b - a) a ((b - a - 1) / 2 + 1) d)) (fun v _ => (intOf v + 1).toNat)
  case atStart => exact ⟨(b - a - 1) / 2 + 1, d, by congr 1; omega, by omega, unhide H0, rfl⟩
  case round =>
    obtain ⟨k, dk, rfl, hk, HR⟩ := hrel
    have c0 := HR.out.1.c0
    have c1 := HR.out.1.c1
    by_cases hk0 : k = 0
    · subst hk0
      rw [show ((0 : Nat) : Int) - 1 = -1 from rfl]
      go_wp2
      have H1 := hide (show In w0 blk n enc lb sf sb W W.heap.size dk wr ∧ heapPop lt a (b - a) dk = heapSort lt d a b from ⟨HR.out.1, by rw [heapSort, ← HR.out.2]; rfl⟩)
      clear HR c0 c1
      go_loopw [10] (fun v wr => ∃ (k : Nat) (dk : Array Nat), v = .int .i64 ((k : Int) - 1) ∧ k ≤ b - a ∧ Hid (In w0 blk n enc lb sf sb W W.heap.size dk wr ∧ heapPop lt a k dk = heapSort lt d a b)) (fun v _ => (intOf v + 1).toNat)
      case atStart => exact ⟨b - a, dk, by congr 1; omega, by omega, unhide H1⟩
      case round =>
        obtain ⟨m, dm, rfl, hm, HR⟩ := hrel
        have c0 := HR.out.1.c0
        have c1 := HR.out.1.c1
        by_cases hm0 : m = 0
        · subst hm0
          go_wp2
          go_end0
          refine ⟨rfl, HR.out.1.gr, ?_⟩
          have := HR.out.1.st
          rw [← HR.out.2]; exact this
        · obtain ⟨q, rfl⟩ : ∃ q, m = q + 1 := ⟨m - 1, by omega⟩
          obtain ⟨w3, hsw, hin3⟩ := (unhide HC).swapI HR.out.1 a (a + q) (a : Int) ((a : Int) + q) rfl (by omega) (by omega) (by omega)
          have cc0 := hin3.c0
          have cc1 := hin3.c1
          have HN := hide hin3
          have HE := hide (show heapPop lt a (q + 1) dm = heapPop lt a q (siftDown lt q a 0 (swp dm a (a + q))) from rfl)
          have HS := hide HR.out.2
          have hq1 : ((q + 1 : Nat) : Int) - 1 = q := by omega
          rw [hq1]
          clear hin3 HR hq1
          go_wp2_with fail
          refine (sift_I (unhide HC) (unhide HN).st 0 q a _ _ _ rfl rfl rfl (by omega) (by omega)).mono ?_
          rintro e w4 ⟨rfl, hg, hst⟩
          have HM := hide ((unhide HN).call hg hst)
          clear hg hst
          go_wp2
          go_roundw
          case rel => exact ⟨q, _, by congr 1, by omega, unhide HM, by rw [← unhide HE]; exact unhide HS⟩
          case measure => simp [intOf]
    · obtain ⟨q, rfl⟩ : ∃ q, k = q + 1 := ⟨k - 1, by omega⟩
      have hq1 : ((q + 1 : Nat) : Int) - 1 = q := by omega
      rw [hq1]
      clear hq1
      have HI := hide HR.out.1
      have HS := hide (show heapBuild lt (b - a) a q (siftDown lt (b - a) a q dk) = _ from HR.out.2)
      clear HR
      go_wp2_with fail
      refine (sift_I (unhide HC) (unhide HI).st q (b - a) a _ _ _ rfl (by omega) rfl (by omega) (by omega)).mono ?_
      rintro e w1 ⟨rfl, hg, hst⟩
      have hin1 := (unhide HI).call hg hst
      have HN := hide hin1
      clear hin1 hg hst
      go_wp2
      go_roundw
      case rel => exact ⟨q, _, by congr 1, by omega, unhide HN, unhide HS⟩
      case measure => simp [intOf]
end Go.Proofs.Ybulkdadi.Srt
