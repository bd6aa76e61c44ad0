/-
  sort.partition_func (41) AT THIS DUMP.
-/
import Derived.Test.YbulkdadiSort0
import Derived.Deep.DeepCutAuto
import Derived.Deep.CutBlock
namespace Go.Proofs.Ybulkdadi.Srt
open Go.ChangeShapes Go.WideShapes Go.ChangeAt Go.RowKit Go.Sort Go.Lib

set_option maxHeartbeats 4000000 in
set_option maxRecDepth 100000 in
theorem part_any {w0 W : World} {blk n : Nat} {enc : Nat → Value} {lt : Nat → Nat → Bool} {lb sb : Array Value} {sf : Nat} {d : Array Nat} (C : Ctx w0 blk n enc lt lb sf sb) (hs : St w0 blk n enc d W) (a b pivot : Nat) (hab : a + 2 ≤ b) (hb : b ≤ n) (hp : pivot < n) :
    Calls Yba.prog 41 #[.agg #[.func (.func 15) #[] lb, .func (.func sf) #[] sb], .int .i64 (a : Int), .int .i64 (b : Int), .int .i64 (pivot : Int)] W fun e w' =>
      ∃ m f d', partition lt d a b pivot = (m, f, d') ∧ e = .returned (.tuple #[.int .i64 (m : Int), .bool f]) ∧ W.grownBy w' (some blk) ∧ St w0 blk n enc d' w' := by
  have hin0 := In.start (lb := lb) (sf := sf) (sb := sb) hs C.blt
  obtain ⟨w1, hsw, hin1⟩ := C.swapI hin0 a pivot (a : Int) (pivot : Int) rfl rfl (by omega) hp
  have hn : n ≤ 4096 := C.small
  have HC := hide C
  obtain ⟨dd, hdd⟩ : ∃ dd, swp d a pivot = dd := ⟨_, rfl⟩
  rw [hdd] at hin1
  have HD := hide hdd
  have H1 := hide hin1
  clear hs C hin0 hin1 hdd
  go_enter Yba.func41, Yba.ntmps41
  go_upto_block 0 with fail
  go_cut [10] (fun s9 wc => ∃ i2 : Nat, s9 = .int .i64 i2 ∧ a + 1 ≤ i2 ∧ i2 ≤ b - 1 + 2 ∧ Hid (In w0 blk n enc lb sf sb W W.heap.size dd wc ∧ scanUp (fun x => lt x (dd)[a]!) dd (b - 1) (a + 1) = i2))
  case first =>
    go_wp2_with fail
    go_loopw [10] (fun v9 wr => ∃ (k : Nat), v9 = .int .i64 k ∧ a + 1 ≤ k ∧ k ≤ b - 1 + 2 ∧ Hid (In w0 blk n enc lb sf sb W W.heap.size dd wr ∧ scanUp (fun x => lt x (dd)[a]!) dd (b - 1) k = scanUp (fun x => lt x (dd)[a]!) dd (b - 1) (a + 1))) (fun v9 _ => (b - 1 + 2 - (intOf v9).toNat))
    case atStart => exact ⟨a + 1, by congr 1, Nat.le_refl _, by omega, unhide H1, rfl⟩
    case round =>
      obtain ⟨k, rfl, hik, hkj, HK⟩ := hrel
      have c0 := HK.out.1.c0
      by_cases hkj' : k ≤ b - 1
      · cases hlv : lt (dd)[k]! (dd)[a]! with
        | true =>
          have HL := hide ((unhide HC).lessB HK.out.1 k a true hlv (k : Int) (a : Int) rfl rfl (by omega) (by omega))
          have HE := hide (scanUp_go (fun x => lt x (dd)[a]!) dd (b - 1) k hkj' hlv)
          clear hlv
          go_wp2_with fail
          refine (unhide HL).mono ?_
          rintro e w2 ⟨rfl, hin2⟩
          have HN := hide hin2
          clear hin2
          go_wp2
          go_roundw
          case rel => exact ⟨k + 1, by go_num, by omega, by omega, unhide HN, by rw [← unhide HE]; exact HK.out.2⟩
          case measure => simp [intOf]; omega
        | false =>
          have HL := hide ((unhide HC).lessB HK.out.1 k a false hlv (k : Int) (a : Int) rfl rfl (by omega) (by omega))
          have HE := hide (scanUp_end (fun x => lt x (dd)[a]!) dd (b - 1) k (.inr hlv))
          clear hlv
          go_wp2_with fail
          refine (unhide HL).mono ?_
          rintro e w2 ⟨rfl, hin2⟩
          have HN := hide hin2
          clear hin2
          go_wp2
          go_meet
          case rel => exact ⟨k, rfl, by omega, by omega, unhide HN, by rw [← HK.out.2]; exact unhide HE⟩
      · have HE := hide (scanUp_end (fun x => lt x (dd)[a]!) dd (b - 1) k (.inl hkj'))
        go_wp2
        go_meet
        case rel => exact ⟨k, rfl, by omega, by omega, HK.out.1, by rw [← HK.out.2]; exact unhide HE⟩
  case rest =>
    obtain ⟨i2, rfl, hi2, hi2j, HK⟩ := hcut
    have Hi2 := hide HK.out.1
    have Ei2 := hide HK.out.2
    clear HK
    go_upto_block 2 with fail
    go_cut [11] (fun s10 wc => ∃ j2 : Nat, s10 = .int .i64 j2 ∧ j2 ≤ b - 1 ∧ i2 ≤ j2 + 2 ∧ Hid (In w0 blk n enc lb sf sb W W.heap.size dd wc ∧ scanDown (fun x => !lt x (dd)[a]!) dd i2 (b - 1) = j2))
    case first =>
      go_wp2_with fail
      go_loopw [11] (fun v10 wr => ∃ (k : Nat), v10 = .int .i64 k ∧ k ≤ b - 1 ∧ i2 ≤ k + 2 ∧ Hid (In w0 blk n enc lb sf sb W W.heap.size dd wr ∧ scanDown (fun x => !lt x (dd)[a]!) dd i2 k = scanDown (fun x => !lt x (dd)[a]!) dd i2 (b - 1))) (fun v10 _ => (intOf v10).toNat)
      case atStart => exact ⟨b - 1, by first | rfl | (congr 1; omega), Nat.le_refl _, by omega, unhide Hi2, rfl⟩
      case round =>
        obtain ⟨k, rfl, hkj, hik, HK⟩ := hrel
        have c0 := HK.out.1.c0
        by_cases hik' : i2 ≤ k
        · cases hlv : lt (dd)[k]! (dd)[a]! with
          | false =>
            have HL := hide ((unhide HC).lessB HK.out.1 k a false hlv (k : Int) (a : Int) rfl rfl (by omega) (by omega))
            have HE := hide (scanDown_go (fun x => !lt x (dd)[a]!) dd i2 k hik' (by omega) (by simp [hlv]))
            clear hlv
            go_wp2_with fail
            refine (unhide HL).mono ?_
            rintro e w2 ⟨rfl, hin2⟩
            have HN := hide hin2
            clear hin2
            go_wp2
            go_roundw
            case rel => exact ⟨k - 1, by congr 1; omega, by omega, by omega, unhide HN, by rw [← unhide HE]; exact HK.out.2⟩
            case measure => simp [intOf]; omega
          | true =>
            have HL := hide ((unhide HC).lessB HK.out.1 k a true hlv (k : Int) (a : Int) rfl rfl (by omega) (by omega))
            have HE := hide (scanDown_end (fun x => !lt x (dd)[a]!) dd i2 k (.inr (by simp [hlv])))
            clear hlv
            go_wp2_with fail
            refine (unhide HL).mono ?_
            rintro e w2 ⟨rfl, hin2⟩
            have HN := hide hin2
            clear hin2
            go_wp2
            go_meet
            case rel => exact ⟨k, rfl, by omega, by omega, unhide HN, by rw [← HK.out.2]; exact unhide HE⟩
        · have HE := hide (scanDown_end (fun x => !lt x (dd)[a]!) dd i2 k (.inl hik'))
          go_wp2
          go_meet
          case rel => exact ⟨k, rfl, by omega, by omega, HK.out.1, by rw [← HK.out.2]; exact unhide HE⟩
    case rest =>
      obtain ⟨j2, rfl, hj2, hj2j, HK⟩ := hcut
      have Hj2 := hide HK.out.1
      have Ej2 := hide HK.out.2
      clear HK
      by_cases hend : j2 < i2
      · obtain ⟨w3, hsw3, hin3⟩ := (unhide HC).swapI (unhide Hj2) j2 a (j2 : Int) (a : Int) rfl rfl (by omega) (by omega)
        have c1 := (unhide Hj2).c1
        have HN := hide hin3
        have HE := hide (show partition lt d a b pivot = (j2, true, swp dd j2 a) by
          unfold partition
          simp only [unhide HD, unhide Ei2, unhide Ej2]
          rw [if_pos hend])
        clear hin3
        go_wp2
        go_ret2
        exact ⟨j2, true, _, unhide HE, rfl, (unhide HN).gr, (unhide HN).st⟩
      · obtain ⟨w3, hsw3, hin3⟩ := (unhide HC).swapI (unhide Hj2) i2 j2 (i2 : Int) (j2 : Int) rfl rfl (by omega) (by omega)
        have c1 := (unhide Hj2).c1
        obtain ⟨de, hde⟩ : ∃ de, swp dd i2 j2 = de := ⟨_, rfl⟩
        rw [hde] at hin3
        have HN := hide hin3
        have HP := hide (show partition lt d a b pivot = ((partLoop lt a (i2 + 1) (j2 - 1) de).1, false, swp (partLoop lt a (i2 + 1) (j2 - 1) de).2 (partLoop lt a (i2 + 1) (j2 - 1) de).1 a) by
          unfold partition
          simp only [unhide HD, unhide Ei2, unhide Ej2, hde]
          rw [if_neg (by omega)])
        clear hin3 hde
        go_wp2
        clear c1
        go_loopw [10, 11] (fun v9 v10 wr => ∃ (i j : Nat) (dk : Array Nat), v9 = .int .i64 i ∧ v10 = .int .i64 j ∧ a < i ∧ i ≤ j + 2 ∧ j < b ∧ Hid (In w0 blk n enc lb sf sb W W.heap.size dk wr ∧ partLoop lt a i j dk = partLoop lt a (i2 + 1) (j2 - 1) de)) (fun v9 v10 _ => (intOf v10 + 2 - intOf v9).toNat)
        case atStart => exact ⟨i2 + 1, j2 - 1, de, by congr 1, by congr 1; omega, by omega, by omega, by omega, unhide HN, rfl⟩
        case round =>
          obtain ⟨i, j, dk, rfl, rfl, hai, hij, hjb, HR⟩ := hrel
          have HS := hide HR.out.2
          have HI := hide HR.out.1
          clear HR hsw hsw3 HN H1 Hi2 Hj2
          go_upto_block 6 with fail
          go_cut [10] (fun s9 wc => ∃ i2 : Nat, s9 = .int .i64 i2 ∧ i ≤ i2 ∧ i2 ≤ j + 2 ∧ Hid (In w0 blk n enc lb sf sb W W.heap.size dk wc ∧ scanUp (fun x => lt x (dk)[a]!) dk (j) (i) = i2))
          case first =>
            go_wp2_with fail
            go_loopw [10] (fun v9 wr => ∃ (k : Nat), v9 = .int .i64 k ∧ i ≤ k ∧ k ≤ j + 2 ∧ Hid (In w0 blk n enc lb sf sb W W.heap.size dk wr ∧ scanUp (fun x => lt x (dk)[a]!) dk (j) k = scanUp (fun x => lt x (dk)[a]!) dk (j) (i))) (fun v9 _ => (j + 2 - (intOf v9).toNat))
            case atStart => exact ⟨i, by congr 1, Nat.le_refl _, by omega, unhide HI, rfl⟩
            case round =>
              obtain ⟨k, rfl, hik, hkj, HK⟩ := hrel
              have c0 := HK.out.1.c0
              by_cases hkj' : k ≤ j
              · cases hlv : lt (dk)[k]! (dk)[a]! with
                | true =>
                  have HL := hide ((unhide HC).lessB HK.out.1 k a true hlv (k : Int) (a : Int) rfl rfl (by omega) (by omega))
                  have HE := hide (scanUp_go (fun x => lt x (dk)[a]!) dk (j) k hkj' hlv)
                  clear hlv
                  go_wp2_with fail
                  refine (unhide HL).mono ?_
                  rintro e w2 ⟨rfl, hin2⟩
                  have HN := hide hin2
                  clear hin2
                  go_wp2
                  go_roundw
                  case rel => exact ⟨k + 1, by go_num, by omega, by omega, unhide HN, by rw [← unhide HE]; exact HK.out.2⟩
                  case measure => simp [intOf]; omega
                | false =>
                  have HL := hide ((unhide HC).lessB HK.out.1 k a false hlv (k : Int) (a : Int) rfl rfl (by omega) (by omega))
                  have HE := hide (scanUp_end (fun x => lt x (dk)[a]!) dk (j) k (.inr hlv))
                  clear hlv
                  go_wp2_with fail
                  refine (unhide HL).mono ?_
                  rintro e w2 ⟨rfl, hin2⟩
                  have HN := hide hin2
                  clear hin2
                  go_wp2
                  go_meet
                  case rel => exact ⟨k, rfl, by omega, by omega, unhide HN, by rw [← HK.out.2]; exact unhide HE⟩
              · have HE := hide (scanUp_end (fun x => lt x (dk)[a]!) dk (j) k (.inl hkj'))
                go_wp2
                go_meet
                case rel => exact ⟨k, rfl, by omega, by omega, HK.out.1, by rw [← HK.out.2]; exact unhide HE⟩
          case rest =>
            obtain ⟨i3, rfl, hi3, hi3j, HK⟩ := hcut
            have Hi3 := hide HK.out.1
            have Ei3 := hide HK.out.2
            clear HK
            go_upto_block 8 with fail
            go_cut [11] (fun s10 wc => ∃ j2 : Nat, s10 = .int .i64 j2 ∧ j2 ≤ j ∧ i3 ≤ j2 + 2 ∧ Hid (In w0 blk n enc lb sf sb W W.heap.size dk wc ∧ scanDown (fun x => !lt x (dk)[a]!) dk i3 (j) = j2))
            case first =>
              go_wp2_with fail
              go_loopw [11] (fun v10 wr => ∃ (k : Nat), v10 = .int .i64 k ∧ k ≤ j ∧ i3 ≤ k + 2 ∧ Hid (In w0 blk n enc lb sf sb W W.heap.size dk wr ∧ scanDown (fun x => !lt x (dk)[a]!) dk i3 k = scanDown (fun x => !lt x (dk)[a]!) dk i3 (j))) (fun v10 _ => (intOf v10).toNat)
              case atStart => exact ⟨j, by first | rfl | (congr 1; omega), Nat.le_refl _, by omega, unhide Hi3, rfl⟩
              case round =>
                obtain ⟨k, rfl, hkj, hik, HK⟩ := hrel
                have c0 := HK.out.1.c0
                by_cases hik' : i3 ≤ k
                · cases hlv : lt (dk)[k]! (dk)[a]! with
                  | false =>
                    have HL := hide ((unhide HC).lessB HK.out.1 k a false hlv (k : Int) (a : Int) rfl rfl (by omega) (by omega))
                    have HE := hide (scanDown_go (fun x => !lt x (dk)[a]!) dk i3 k hik' (by omega) (by simp [hlv]))
                    clear hlv
                    go_wp2_with fail
                    refine (unhide HL).mono ?_
                    rintro e w2 ⟨rfl, hin2⟩
                    have HN := hide hin2
                    clear hin2
                    go_wp2
                    go_roundw
                    case rel => exact ⟨k - 1, by congr 1; omega, by omega, by omega, unhide HN, by rw [← unhide HE]; exact HK.out.2⟩
                    case measure => simp [intOf]; omega
                  | true =>
                    have HL := hide ((unhide HC).lessB HK.out.1 k a true hlv (k : Int) (a : Int) rfl rfl (by omega) (by omega))
                    have HE := hide (scanDown_end (fun x => !lt x (dk)[a]!) dk i3 k (.inr (by simp [hlv])))
                    clear hlv
                    go_wp2_with fail
                    refine (unhide HL).mono ?_
                    rintro e w2 ⟨rfl, hin2⟩
                    have HN := hide hin2
                    clear hin2
                    go_wp2
                    go_meet
                    case rel => exact ⟨k, rfl, by omega, by omega, unhide HN, by rw [← HK.out.2]; exact unhide HE⟩
                · have HE := hide (scanDown_end (fun x => !lt x (dk)[a]!) dk i3 k (.inl hik'))
                  go_wp2
                  go_meet
                  case rel => exact ⟨k, rfl, by omega, by omega, HK.out.1, by rw [← HK.out.2]; exact unhide HE⟩
            case rest =>
              obtain ⟨j3, rfl, hj3, hj3j, HK⟩ := hcut
              have Hj3 := hide HK.out.1
              have Ej3 := hide HK.out.2
              clear HK
              have c1 := (unhide Hj3).c1
              by_cases hend3 : j3 < i3
              · have HE := hide (show partLoop lt a i j dk = (j3, dk) by
                  rw [partLoop_eq, unhide Ei3, unhide Ej3, if_pos hend3])
                obtain ⟨w5, hsw5, hin5⟩ := (unhide HC).swapI (unhide Hj3) j3 a (j3 : Int) (a : Int) rfl rfl (by omega) (by omega)
                have HN := hide hin5
                clear hin5
                go_wp2
                go_ret2
                refine ⟨j3, false, swp dk j3 a, ?_, rfl, (unhide HN).gr, (unhide HN).st⟩
                rw [unhide HP, ← unhide HS, unhide HE]
              · have HE := hide (show partLoop lt a i j dk = partLoop lt a (i3 + 1) (j3 - 1) (swp dk i3 j3) by
                  rw [partLoop_eq, unhide Ei3, unhide Ej3, if_neg (by omega)])
                obtain ⟨w5, hsw5, hin5⟩ := (unhide HC).swapI (unhide Hj3) i3 j3 (i3 : Int) (j3 : Int) rfl rfl (by omega) (by omega)
                have HN := hide hin5
                clear hin5
                go_wp2
                go_roundw
                case rel => exact ⟨i3 + 1, j3 - 1, _, by go_num, by congr 1; omega, by omega, by omega, by omega, unhide HN, by rw [← unhide HE]; exact unhide HS⟩
                case measure => simp [intOf]; omega
end Go.Proofs.Ybulkdadi.Srt
