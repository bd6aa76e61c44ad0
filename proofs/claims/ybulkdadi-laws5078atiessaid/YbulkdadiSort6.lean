/-
  sort.partitionEqual_func (40) AT THIS DUMP.
-/
import Derived.Test.YbulkdadiSort0
import Derived.Deep.DeepCutAuto
import Derived.Deep.CutBlock
namespace Go.Proofs.Ybulkdadi.Srt
open Go.ChangeShapes Go.WideShapes Go.ChangeAt Go.RowKit Go.Sort Go.Lib

set_option maxHeartbeats 4000000 in
set_option maxRecDepth 100000 in
theorem parteq_any {w0 W : World} {blk n : Nat} {enc : Nat → Value} {lt : Nat → Nat → Bool} {lb sb : Array Value} {sf : Nat} {d : Array Nat} (C : Ctx w0 blk n enc lt lb sf sb) (hs : St w0 blk n enc d W) (a b pivot : Nat) (hab : a + 2 ≤ b) (hb : b ≤ n) (hp : pivot < n) :
    Calls Yba.prog 40 #[.agg #[.func (.func 15) #[] lb, .func (.func sf) #[] sb], .int .i64 (a : Int), .int .i64 (b : Int), .int .i64 (pivot : Int)] W fun e w' =>
      ∃ m d', partitionEqual lt d a b pivot = (m, d') ∧ e = .returned (.int .i64 (m : Int)) ∧ W.grownBy w' (some blk) ∧ St w0 blk n enc d' w' := by
  have hin0 := In.start (lb := lb) (sf := sf) (sb := sb) hs C.blt
  obtain ⟨w1, hsw, hin1⟩ := C.swapI hin0 a pivot (a : Int) (pivot : Int) rfl rfl (by omega) hp
  have hn : n ≤ 4096 := C.small
  have HC := hide C
  have H1 := hide hin1
  clear hs C hin0 hin1
  go_enter Yba.func40, Yba.ntmps40
  go_wp2
  go_loopw [9, 10] (fun v9 v10 wr => ∃ (i j : Nat) (dk : Array Nat), v9 = .int .i64 i ∧ v10 = .int .i64 j ∧ a < i ∧ i ≤ j + 2 ∧ j < b ∧ Hid (In w0 blk n enc lb sf sb W W.heap.size dk wr ∧ partEqLoop lt a i j dk = partitionEqual lt d a b pivot)) (fun v9 v10 _ => (intOf v10 + 2 - intOf v9).toNat)
  case atStart => exact ⟨a + 1, b - 1, swp d a pivot, by congr 1, by congr 1; omega, by omega, by omega, by omega, unhide H1, rfl⟩
  case round =>
    obtain ⟨i, j, dk, rfl, rfl, hai, hij, hjb, HR⟩ := hrel
    have HS := hide HR.out.2
    have HI := hide HR.out.1
    clear HR hsw H1
    go_upto_block 2 with fail
    go_cut [9] (fun s9 wc => ∃ i2 : Nat, s9 = .int .i64 i2 ∧ i ≤ i2 ∧ i2 ≤ j + 2 ∧ Hid (In w0 blk n enc lb sf sb W W.heap.size dk wc ∧ scanUp (fun x => !lt dk[a]! x) dk j i = i2))
    case first =>
      go_wp2_with fail
      go_loopw [9] (fun v9 wr => ∃ (k : Nat), v9 = .int .i64 k ∧ i ≤ k ∧ k ≤ j + 2 ∧ Hid (In w0 blk n enc lb sf sb W W.heap.size dk wr ∧ scanUp (fun x => !lt dk[a]! x) dk j k = scanUp (fun x => !lt dk[a]! x) dk j i)) (fun v9 _ => (j + 2 - (intOf v9).toNat))
      case atStart => exact ⟨i, rfl, Nat.le_refl _, hij, unhide HI, rfl⟩
      case round =>
        obtain ⟨k, rfl, hik, hkj, HK⟩ := hrel
        have c0 := HK.out.1.c0
        by_cases hkj' : k ≤ j
        · cases hlv : lt dk[a]! dk[k]! with
          | false =>
            have HL := hide ((unhide HC).lessB HK.out.1 a k false hlv (a : Int) (k : Int) rfl rfl (by omega) (by omega))
            have HE := hide (scanUp_go (fun x => !lt dk[a]! x) dk j k hkj' (by simp [hlv]))
            clear hlv
            go_wp2_with fail
            refine (unhide HL).mono ?_
            rintro e w2 ⟨rfl, hin2⟩
            have HN := hide hin2
            clear hin2
            go_wp2
            go_roundw
            case rel => exact ⟨k + 1, by go_num, by omega, by omega, unhide HN, by rw [← unhide HE]; exact HK.out.2⟩
            case measure => simp [intOf]; omega
          | true =>
            have HL := hide ((unhide HC).lessB HK.out.1 a k true hlv (a : Int) (k : Int) rfl rfl (by omega) (by omega))
            have HE := hide (scanUp_end (fun x => !lt dk[a]! x) dk j k (.inr (by simp [hlv])))
            clear hlv
            go_wp2_with fail
            refine (unhide HL).mono ?_
            rintro e w2 ⟨rfl, hin2⟩
            have HN := hide hin2
            clear hin2
            go_wp2
            go_meet
            case rel => exact ⟨k, rfl, by omega, by omega, unhide HN, by rw [← HK.out.2]; exact unhide HE⟩
        · have HE := hide (scanUp_end (fun x => !lt dk[a]! x) dk j k (.inl hkj'))
          go_wp2
          go_meet
          case rel => exact ⟨k, rfl, by omega, by omega, HK.out.1, by rw [← HK.out.2]; exact unhide HE⟩
    case rest =>
      obtain ⟨i2, rfl, hi2, hi2j, HK⟩ := hcut
      have HI2 := hide HK.out.1
      have EI := hide HK.out.2
      clear HK
      go_upto_block 4 with fail
      go_cut [10] (fun s10 wc => ∃ j2 : Nat, s10 = .int .i64 j2 ∧ j2 ≤ j ∧ i2 ≤ j2 + 2 ∧ Hid (In w0 blk n enc lb sf sb W W.heap.size dk wc ∧ scanDown (fun x => lt dk[a]! x) dk i2 j = j2))
      case first =>
        go_wp2_with fail
        go_loopw [10] (fun v10 wr => ∃ (k : Nat), v10 = .int .i64 k ∧ k ≤ j ∧ i2 ≤ k + 2 ∧ Hid (In w0 blk n enc lb sf sb W W.heap.size dk wr ∧ scanDown (fun x => lt dk[a]! x) dk i2 k = scanDown (fun x => lt dk[a]! x) dk i2 j)) (fun v10 _ => (intOf v10).toNat)
        case atStart => exact ⟨j, rfl, Nat.le_refl _, by omega, unhide HI2, rfl⟩
        case round =>
          obtain ⟨k, rfl, hkj, hik, HK⟩ := hrel
          have c0 := HK.out.1.c0
          by_cases hik' : i2 ≤ k
          · cases hlv : lt dk[a]! dk[k]! with
            | true =>
              have HL := hide ((unhide HC).lessB HK.out.1 a k true hlv (a : Int) (k : Int) rfl rfl (by omega) (by omega))
              have HE := hide (scanDown_go (fun x => lt dk[a]! x) dk i2 k hik' (by omega) hlv)
              clear hlv
              go_wp2_with fail
              refine (unhide HL).mono ?_
              rintro e w2 ⟨rfl, hin2⟩
              have HN := hide hin2
              clear hin2
              go_wp2
              go_roundw
              case rel => exact ⟨k - 1, by congr 1; omega, by omega, by omega, unhide HN, by rw [← unhide HE]; exact HK.out.2⟩
              case measure => simp [intOf]; omega
            | false =>
              have HL := hide ((unhide HC).lessB HK.out.1 a k false hlv (a : Int) (k : Int) rfl rfl (by omega) (by omega))
              have HE := hide (scanDown_end (fun x => lt dk[a]! x) dk i2 k (.inr hlv))
              clear hlv
              go_wp2_with fail
              refine (unhide HL).mono ?_
              rintro e w2 ⟨rfl, hin2⟩
              have HN := hide hin2
              clear hin2
              go_wp2
              go_meet
              case rel => exact ⟨k, rfl, by omega, by omega, unhide HN, by rw [← HK.out.2]; exact unhide HE⟩
          · have HE := hide (scanDown_end (fun x => lt dk[a]! x) dk i2 k (.inl hik'))
            go_wp2
            go_meet
            case rel => exact ⟨k, rfl, by omega, by omega, HK.out.1, by rw [← HK.out.2]; exact unhide HE⟩
      case rest =>
        obtain ⟨j2, rfl, hj2, hj2i, HK⟩ := hcut
        have EJ := hide HK.out.2
        have c1 := HK.out.1.c1
        by_cases hend : j2 < i2
        · have HE := hide (show partEqLoop lt a i j dk = (i2, dk) by
            rw [partEqLoop_eq, unhide EI, unhide EJ, if_pos hend])
          go_wp2
          go_ret
          exact ⟨i2, dk, by rw [← unhide HS]; exact unhide HE, rfl, HK.out.1.gr, HK.out.1.st⟩
        · have HE := hide (show partEqLoop lt a i j dk = partEqLoop lt a (i2 + 1) (j2 - 1) (swp dk i2 j2) by
            rw [partEqLoop_eq, unhide EI, unhide EJ, if_neg (by omega)])
          obtain ⟨w3, hsw, hin3⟩ := (unhide HC).swapI HK.out.1 i2 j2 (i2 : Int) (j2 : Int) rfl rfl (by omega) (by omega)
          have HN := hide hin3
          clear hin3
          go_wp2
          go_roundw
          case rel => exact ⟨i2 + 1, j2 - 1, _, by go_num, by congr 1; omega, by omega, by omega, by omega, unhide HN, by rw [← unhide HE]; exact unhide HS⟩
          case measure => simp [intOf]; omega
end Go.Proofs.Ybulkdadi.Srt
