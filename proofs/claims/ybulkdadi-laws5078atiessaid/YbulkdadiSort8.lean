/-
  sort.partialInsertionSort_func (39) AT THIS DUMP.
-/
import Derived.Test.YbulkdadiSort0
import Derived.Deep.DeepCutAuto
import Derived.Deep.CutBlock
namespace Go.Proofs.Ybulkdadi.Srt
open Go.ChangeShapes Go.WideShapes Go.ChangeAt Go.RowKit Go.Sort Go.Lib

theorem pi_end {w0 W w' : World} {blk n : Nat} {enc : Nat → Value} {d' : Array Nat} {f : Bool} {r : Array Nat × Bool} {v : Value} (h : r = (d', f)) (hv : v = .bool f) (hg : W.grownBy w' (some blk)) (hs : St w0 blk n enc d' w') :
    Ending.returned v = .returned (.bool r.2) ∧ W.grownBy w' (some blk) ∧ St w0 blk n enc r.1 w' := by
  subst h hv; exact ⟨rfl, hg, hs⟩

set_option maxHeartbeats 4000000 in
set_option maxRecDepth 100000 in
theorem partial_any {w0 W : World} {blk n : Nat} {enc : Nat → Value} {lt : Nat → Nat → Bool} {lb sb : Array Value} {sf : Nat} {d : Array Nat} (C : Ctx w0 blk n enc lt lb sf sb) (hs : St w0 blk n enc d W) (a b : Nat) (hab : a + 2 ≤ b) (hb : b ≤ n) :
    Calls Yba.prog 39 #[.agg #[.func (.func 15) #[] lb, .func (.func sf) #[] sb], .int .i64 (a : Int), .int .i64 (b : Int)] W fun e w' =>
      e = .returned (.bool (partialInsertionSort lt d a b).2) ∧ W.grownBy w' (some blk) ∧ St w0 blk n enc (partialInsertionSort lt d a b).1 w' := by
  have H0 := hide (In.start (lb := lb) (sf := sf) (sb := sb) hs C.blt)
  have hn : n ≤ 4096 := C.small
  have HC := hide C
  clear hs C
  go_enter Yba.func39, Yba.ntmps39
  go_wp2
  go_loopw [7, 8] (fun v7 v8 wr => ∃ (i s : Nat) (dk : Array Nat), v7 = .int .i64 i ∧ v8 = .int .i64 s ∧ a < i ∧ i ≤ b ∧ s ≤ 5 ∧ Hid (In w0 blk n enc lb sf sb W W.heap.size dk wr ∧ partialIns lt a b (5 - s) i dk = partialInsertionSort lt d a b)) (fun _ v8 _ => (5 - intOf v8).toNat)
  case atStart => exact ⟨a + 1, 0, d, by congr 1, rfl, by omega, by omega, by omega, unhide H0, rfl⟩
  case round =>
    obtain ⟨i, s, dk, rfl, rfl, hai, hib, hs5, HR⟩ := hrel
    by_cases hs' : s < 5
    · obtain ⟨q, hq⟩ : ∃ q, 5 - s = q + 1 := ⟨4 - s, by omega⟩
      have HI := hide HR.out.1
      have HS := hide (show partialIns lt a b (q + 1) i dk = partialInsertionSort lt d a b by rw [← hq]; exact HR.out.2)
      have hsd : decide ((s : Int) < 5) = true := by simp; omega
      clear HR H0
      go_upto_block 2 with fail
      go_cut [7] (fun s7 wc => ∃ i2 : Nat, s7 = .int .i64 i2 ∧ i ≤ i2 ∧ i2 ≤ b ∧ Hid (In w0 blk n enc lb sf sb W W.heap.size dk wc ∧ scanSorted lt dk b i = i2))
      case first =>
        go_wp2_with fail
        go_loopw [7] (fun v7 wr => ∃ (k : Nat), v7 = .int .i64 k ∧ i ≤ k ∧ k ≤ b ∧ Hid (In w0 blk n enc lb sf sb W W.heap.size dk wr ∧ scanSorted lt dk b k = scanSorted lt dk b i)) (fun v7 _ => (b - (intOf v7).toNat))
        case atStart => exact ⟨i, rfl, Nat.le_refl _, hib, unhide HI, rfl⟩
        case round =>
          obtain ⟨k, rfl, hik, hkb, HK⟩ := hrel
          have c0 := HK.out.1.c0
          by_cases hkb' : k < b
          · cases hlv : lt dk[k]! dk[k - 1]! with
            | false =>
              have HL := hide ((unhide HC).lessB HK.out.1 k (k - 1) false hlv (k : Int) ((k : Int) - 1) rfl (by omega) (by omega) (by omega))
              have HE := hide (scanSorted_go lt dk b k hkb' hlv)
              clear hlv
              go_wp2_with fail
              refine (unhide HL).mono ?_
              rintro e w2 ⟨rfl, hin2⟩
              have HN := hide hin2
              clear hin2
              go_wp2
              go_roundw
              case rel => exact ⟨k + 1, by go_num, by omega, by omega, unhide HN, by rw [← unhide HE]; exact HK.out.2⟩
              case measure => simp [intOf]; omega
            | true =>
              have HL := hide ((unhide HC).lessB HK.out.1 k (k - 1) true hlv (k : Int) ((k : Int) - 1) rfl (by omega) (by omega) (by omega))
              have HE := hide (scanSorted_stop lt dk b k (.inr hlv))
              clear hlv
              go_wp2_with fail
              refine (unhide HL).mono ?_
              rintro e w2 ⟨rfl, hin2⟩
              have HN := hide hin2
              clear hin2
              go_wp2
              go_meet
              case rel => exact ⟨k, rfl, by omega, by omega, unhide HN, by rw [← HK.out.2]; exact unhide HE⟩
          · have HE := hide (scanSorted_stop lt dk b k (.inl hkb'))
            go_wp2
            go_meet
            case rel => exact ⟨k, rfl, by omega, by omega, HK.out.1, by rw [← HK.out.2]; exact unhide HE⟩
      case rest =>
        obtain ⟨i2, rfl, hi2, hi2b, HK⟩ := hcut
        have HI2 := hide HK.out.1
        have EI := hide HK.out.2
        clear HK
        have EQ := hide (show partialIns lt a b (q + 1) i dk = if i2 = b then (dk, true) else if b - a < 50 then (dk, false) else
            partialIns lt a b q i2 (fixUp lt b i2 (fixDown lt a i2 (swp dk i2 (i2 - 1)))) by rw [partialIns_succ, unhide EI])
        by_cases hend : i2 = b
        · subst hend
          have HF := hide (show partialInsertionSort lt d a i2 = (dk, true) by rw [← unhide HS, unhide EQ, if_pos rfl])
          have bb : ((i2 : Int) == (i2 : Int)) = true := by simp
          go_wp2
          go_ret
          exact pi_end (unhide HF) rfl (unhide HI2).gr (unhide HI2).st
        · have bb : ((i2 : Int) == (b : Int)) = false := beq_eq_false_iff_ne.2 (by omega)
          by_cases h50 : b - a < 50
          · have h50' : (b : Int) - a < 50 := by omega
            have HF := hide (show partialInsertionSort lt d a b = (dk, false) by rw [← unhide HS, unhide EQ, if_neg hend, if_pos h50])
            go_wp2
            go_ret
            exact pi_end (unhide HF) rfl (unhide HI2).gr (unhide HI2).st
          · have h50' : ¬ (b : Int) - a < 50 := by omega
            have HF := hide (show partialIns lt a b q i2 (fixUp lt b i2 (fixDown lt a i2 (swp dk i2 (i2 - 1)))) = partialInsertionSort lt d a b by rw [← unhide HS, unhide EQ, if_neg hend, if_neg h50])
            obtain ⟨w3, hsw, hin3⟩ := (unhide HC).swapI (unhide HI2) i2 (i2 - 1) (i2 : Int) ((i2 : Int) - 1) rfl (by omega) (by omega) (by omega)
            have c1 := (unhide HI2).c1
            obtain ⟨d1, hd1⟩ : ∃ d1, swp dk i2 (i2 - 1) = d1 := ⟨_, rfl⟩
            rw [hd1] at hin3 HF
            have HN := hide hin3
            clear hin3 hd1 EQ HS EI
            go_upto_if 47 with fail
            go_cut [9] (fun s9 wc => Hid (In w0 blk n enc lb sf sb W W.heap.size (fixDown lt a i2 d1) wc))
            case first =>
              by_cases h2 : 2 ≤ i2 - a
              · have h2' : (2 : Int) ≤ (i2 : Int) - a := by omega
                have HG := hide (show fixDown lt a i2 d1 = shiftDown lt (i2 - 1) d1 by unfold fixDown; rw [if_pos h2])
                go_wp2
                go_loopw [9] (fun v9 wr => ∃ (k : Nat) (dj : Array Nat), v9 = .int .i64 k ∧ k < i2 ∧ Hid (In w0 blk n enc lb sf sb W W.heap.size dj wr ∧ shiftDown lt k dj = shiftDown lt (i2 - 1) d1)) (fun v9 _ => (intOf v9).toNat)
                case atStart => exact ⟨i2 - 1, d1, by congr 1; omega, by omega, unhide HN, rfl⟩
                case round =>
                  obtain ⟨k, dj, rfl, hk, HK⟩ := hrel
                  have k0 := HK.out.1.c0
                  have k1 := HK.out.1.c1
                  by_cases hk1 : 1 ≤ k
                  · cases hlv : lt dj[k]! dj[k - 1]! with
                    | true =>
                      have HL := hide ((unhide HC).lessB HK.out.1 k (k - 1) true hlv (k : Int) ((k : Int) - 1) rfl (by omega) (by omega) (by omega))
                      have HE := hide (shiftDown_go lt k dj hk1 hlv)
                      clear hlv
                      go_wp2_with fail
                      refine (unhide HL).mono ?_
                      rintro e w4 ⟨rfl, hin4⟩
                      obtain ⟨w5, hsw5, hin5⟩ := (unhide HC).swapI hin4 k (k - 1) (k : Int) ((k : Int) - 1) rfl (by omega) (by omega) (by omega)
                      have l1 := hin4.c1
                      have HM := hide hin5
                      clear hin4 hin5
                      go_wp2
                      go_roundw
                      case rel => exact ⟨k - 1, _, by congr 1; omega, by omega, unhide HM, by rw [← unhide HE]; exact HK.out.2⟩
                      case measure => simp [intOf]; omega
                    | false =>
                      have HL := hide ((unhide HC).lessB HK.out.1 k (k - 1) false hlv (k : Int) ((k : Int) - 1) rfl (by omega) (by omega) (by omega))
                      have HE := hide (shiftDown_stop lt k dj (.inr hlv))
                      clear hlv
                      go_wp2_with fail
                      refine (unhide HL).mono ?_
                      rintro e w4 ⟨rfl, hin4⟩
                      have HM := hide hin4
                      clear hin4
                      go_wp2
                      go_meet
                      case rel =>
                        have := unhide HM
                        rw [← unhide HE, HK.out.2, ← unhide HG] at this
                        exact this
                  · have HE := hide (shiftDown_stop lt k dj (.inl (by omega)))
                    go_wp2
                    go_meet
                    case rel =>
                      have := HK.out.1
                      rw [← unhide HE, HK.out.2, ← unhide HG] at this
                      exact this
              · have h2' : ¬ (2 : Int) ≤ (i2 : Int) - a := by omega
                have HG := hide (show fixDown lt a i2 d1 = d1 by unfold fixDown; rw [if_neg h2])
                go_wp2
                go_meet
                case rel => rw [unhide HG]; exact unhide HN
            case rest =>
              clear hsw HN c1
              obtain ⟨d2, hd2⟩ : ∃ d2, fixDown lt a i2 d1 = d2 := ⟨_, rfl⟩
              rw [hd2] at hcut HF
              have HN := hide (unhide hcut)
              clear hd2 hcut
              by_cases h2 : 2 ≤ b - i2
              · have h2' : (2 : Int) ≤ (b : Int) - i2 := by omega
                rw [show fixUp lt b i2 d2 = shiftUp lt b (i2 + 1) d2 by unfold fixUp; rw [if_pos h2]] at HF
                go_wp2
                go_loopw [10] (fun v10 wr => ∃ (k : Nat) (dj : Array Nat), v10 = .int .i64 k ∧ i2 < k ∧ k ≤ b ∧ Hid (In w0 blk n enc lb sf sb W W.heap.size dj wr ∧ shiftUp lt b k dj = shiftUp lt b (i2 + 1) d2)) (fun v10 _ => (b - (intOf v10).toNat))
                case atStart => exact ⟨i2 + 1, d2, by congr 1, by omega, by omega, unhide HN, rfl⟩
                case round =>
                  obtain ⟨k, dj, rfl, hk, hkb, HK⟩ := hrel
                  have k0 := HK.out.1.c0
                  have k1 := HK.out.1.c1
                  by_cases hk1 : k < b
                  · cases hlv : lt dj[k]! dj[k - 1]! with
                    | true =>
                      have HL := hide ((unhide HC).lessB HK.out.1 k (k - 1) true hlv (k : Int) ((k : Int) - 1) rfl (by omega) (by omega) (by omega))
                      have HE := hide (shiftUp_go lt b k dj hk1 hlv)
                      clear hlv
                      go_wp2_with fail
                      refine (unhide HL).mono ?_
                      rintro e w4 ⟨rfl, hin4⟩
                      obtain ⟨w5, hsw5, hin5⟩ := (unhide HC).swapI hin4 k (k - 1) (k : Int) ((k : Int) - 1) rfl (by omega) (by omega) (by omega)
                      have l1 := hin4.c1
                      have HM := hide hin5
                      clear hin4 hin5
                      go_wp2
                      go_roundw
                      case rel => exact ⟨k + 1, _, by go_num, by omega, by omega, unhide HM, by rw [← unhide HE]; exact HK.out.2⟩
                      case measure => simp [intOf]; omega
                    | false =>
                      have HL := hide ((unhide HC).lessB HK.out.1 k (k - 1) false hlv (k : Int) ((k : Int) - 1) rfl (by omega) (by omega) (by omega))
                      have HE := hide (shiftUp_stop lt b k dj (.inr hlv))
                      clear hlv
                      go_wp2_with fail
                      refine (unhide HL).mono ?_
                      rintro e w4 ⟨rfl, hin4⟩
                      have HM := hide hin4
                      clear hin4
                      go_wp2
                      go_roundw
                      case rel => exact ⟨i2, s + 1, _, rfl, by go_num, by omega, by omega, by omega, unhide HM, by rw [show 5 - (s + 1) = q from by omega, ← unhide HF, ← HK.out.2, unhide HE]⟩
                      case measure => simp [intOf]; omega
                  · have HE := hide (shiftUp_stop lt b k dj (.inl hk1))
                    go_wp2
                    go_roundw
                    case rel => exact ⟨i2, s + 1, _, rfl, by go_num, by omega, by omega, by omega, HK.out.1, by rw [show 5 - (s + 1) = q from by omega, ← unhide HF, ← HK.out.2, unhide HE]⟩
                    case measure => simp [intOf]; omega
              · have h2' : ¬ (2 : Int) ≤ (b : Int) - i2 := by omega
                rw [show fixUp lt b i2 d2 = d2 by unfold fixUp; rw [if_neg h2]] at HF
                go_wp2
                go_roundw
                case rel => exact ⟨i2, s + 1, _, rfl, by go_num, by omega, by omega, by omega, unhide HN, by rw [show 5 - (s + 1) = q from by omega]; exact unhide HF⟩
                case measure => simp [intOf]; omega
    · have HI := hide HR.out.1
      have HS := hide (show partialInsertionSort lt d a b = (dk, false) by rw [← HR.out.2, show 5 - s = 0 from by omega]; rfl)
      go_wp2
      go_ret
      exact pi_end (unhide HS) rfl (unhide HI).gr (unhide HI).st
end Go.Proofs.Ybulkdadi.Srt
