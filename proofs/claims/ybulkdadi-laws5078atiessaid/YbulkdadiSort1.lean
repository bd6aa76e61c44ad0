/-
  sort.insertionSort_func (34) AT THIS DUMP.
-/
import Derived.Test.YbulkdadiSort0
namespace Go.Proofs.Ybulkdadi.Srt
open Go.ChangeShapes Go.WideShapes Go.ChangeAt Go.RowKit Go.Sort Go.Lib

set_option maxHeartbeats 2000000 in
set_option maxRecDepth 100000 in
theorem ins_any {w0 W : World} {blk n : Nat} {enc : Nat → Value} {lt : Nat → Nat → Bool} {lb sb : Array Value} {sf : Nat} {d : Array Nat} (C : Ctx w0 blk n enc lt lb sf sb) (hs : St w0 blk n enc d W) (a b : Nat) (hab : a ≤ b) (hb : b ≤ n) :
    Calls Yba.prog 34 #[.agg #[.func (.func 15) #[] lb, .func (.func sf) #[] sb], .int .i64 (a : Int), .int .i64 (b : Int)] W fun e w' =>
      e = .returned (.tuple #[]) ∧ W.grownBy w' (some blk) ∧ St w0 blk n enc (insertionSort lt d a b) w' := by
  have H0 := hide (In.start (lb := lb) (sf := sf) (sb := sb) hs C.blt)
  have hn : n ≤ 4096 := C.small
  have HC := hide C
  clear hs C
  go_enter Yba.func34, Yba.ntmps34
  go_wp2
  go_loopw [6] (fun vi wr => ∃ (i : Nat) (dk : Array Nat), vi = .int .i64 i ∧ a < i ∧ i ≤ b + 1 ∧ Hid (In w0 blk n enc lb sf sb W W.heap.size dk wr ∧ insOuter lt a b i dk = insOuter lt a b (a + 1) d)) (fun vi _ => b + 1 - (intOf vi).toNat)
  case atStart => exact ⟨a + 1, d, by go_num, by omega, by omega, unhide H0, rfl⟩
  case round =>
    obtain ⟨i, dk, rfl, hai, hib, HR⟩ := hrel
    by_cases hlt : i < b
    · go_wp2
      go_loopw [7] (fun vj wr2 => ∃ (j : Nat) (dj : Array Nat), vj = .int .i64 j ∧ a ≤ j ∧ j ≤ i ∧ Hid (In w0 blk n enc lb sf sb W W.heap.size dj wr2 ∧ insInner lt a j dj = insInner lt a i dk)) (fun vj _ => (intOf vj).toNat)
      case atStart => exact ⟨i, dk, rfl, by omega, Nat.le_refl _, HR.out.1, rfl⟩
      case round =>
        obtain ⟨j, dj, rfl, haj, hji, HI⟩ := hrel
        have c0 := HI.out.1.c0
        have OUT := hide (fun (hstop : j ≤ a ∨ lt dj[j]! dj[j - 1]! = false) => show insOuter lt a b (i + 1) dj = insOuter lt a b (a + 1) d by
          rw [← HR.out.2, insOuter_go _ _ _ _ _ hlt, ← HI.out.2, insInner_stop _ _ _ _ hstop])
        by_cases hja : a < j
        · have hl := (unhide HC).lessAt HI.out.1 j (j - 1) (by omega) (by omega)
          rw [show (((j - 1 : Nat) : Int)) = (j : Int) - 1 by omega] at hl
          cases hlv : lt dj[j]! dj[j - 1]! with
          | true =>
            rw [hlv] at hl
            have HL := hide hl
            have HE := hide (insInner_go lt a j dj hja hlv)
            clear hl hlv
            go_wp2_with fail
            refine (unhide HL).mono ?_
            rintro e w1 ⟨rfl, hin⟩
            obtain ⟨hsw, hin2⟩ := (unhide HC).swapAt hin j (j - 1) (by omega) (by omega)
            rw [show (((j - 1 : Nat) : Int)) = (j : Int) - 1 by omega] at hsw
            have c1 := hin.c1
            have HN := hide hin2
            clear hin hin2
            go_wp2
            go_roundw
            case rel => exact ⟨j - 1, swp dj j (j - 1), by congr 1 <;> omega, by omega, by omega, unhide HN, by rw [← HI.out.2, unhide HE]⟩
            case measure => simp [intOf]; omega
          | false =>
            rw [hlv] at hl
            have HL := hide hl
            have HE := hide hlv
            clear hl hlv
            go_wp2_with (go_at_call 15; refine (unhide HL).mono ?_; rintro e w1 ⟨rfl, hin⟩)
            go_roundw
            case rel => exact ⟨i + 1, dj, by go_num, by omega, by omega, hin, unhide OUT (.inr (unhide HE))⟩
            case measure => simp [intOf]; omega
        · go_wp2
          go_roundw
          case rel => exact ⟨i + 1, dj, by go_num, by omega, by omega, HI.out.1, unhide OUT (.inl (by omega))⟩
          case measure => simp [intOf]; omega
    · go_wp2
      go_end0
      refine ⟨rfl, HR.out.1.gr, ?_⟩
      have hst := HR.out.1.st
      rw [insertionSort, ← HR.out.2, insOuter_stop _ _ _ _ _ hlt]
      exact hst
end Go.Proofs.Ybulkdadi.Srt
