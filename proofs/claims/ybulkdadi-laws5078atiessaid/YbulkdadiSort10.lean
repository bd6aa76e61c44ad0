/-
  sort.pdqsort_func (22) AT THIS DUMP: it leaves a sorted permutation.
-/
import Derived.Test.YbulkdadiSort1
import Derived.Test.YbulkdadiSort3
import Derived.Test.YbulkdadiSort5
import Derived.Test.YbulkdadiSort6
import Derived.Test.YbulkdadiSort7
import Derived.Test.YbulkdadiSort8
import Derived.Test.YbulkdadiSort9
namespace Go.Proofs.Ybulkdadi.Srt
open Go.ChangeShapes Go.WideShapes Go.ChangeAt Go.RowKit Go.Sort Go.Lib

/-- A sorted permutation of [a, b). -/
def Done (lt : Nat → Nat → Bool) (a b : Nat) (d R : Array Nat) : Prop := PermIn a b d R ∧ SortedIn lt a b R

set_option maxHeartbeats 8000000 in
set_option maxRecDepth 100000 in
theorem pdq_any {w0 : World} {blk n : Nat} {enc : Nat → Value} {lt : Nat → Nat → Bool} {lb sb : Array Value} {sf : Nat} (C : Ctx w0 blk n enc lt lb sf sb) (hO : SWO lt) :
    ∀ (N : Nat) (W : World) (d : Array Nat) (a b limit : Nat), b - a < N → St w0 blk n enc d W → a ≤ b → b ≤ n → limit ≤ 4096 → Go.Sort.Below lt a b d →
      Calls Yba.prog 22 #[.agg #[.func (.func 15) #[] lb, .func (.func sf) #[] sb], .int .i64 (a : Int), .int .i64 (b : Int), .int .i64 (limit : Int)] W fun e w' =>
        e = .returned (.tuple #[]) ∧ W.grownBy w' (some blk) ∧ ∃ R, St w0 blk n enc R w' ∧ Done lt a b d R := by
  intro N
  induction N with
  | zero => intro _ _ _ _ _ h; omega
  | succ N ih =>
    intro W d a b limit hN hs hab hb hlim hBel
    have H0 := hide (In.start (lb := lb) (sf := sf) (sb := sb) hs C.blt)
    have hn : n ≤ 4096 := C.small
    have HC := hide C
    have HO := hide hO
    have IH := hide ih
    have HB := hide hBel
    clear hs C hO ih hBel
    go_enter Yba.func22, Yba.ntmps22
    go_wp2
    go_loopw [1, 2, 3, 8, 9] (fun s1 s2 s3 s8 s9 wr => ∃ (a' b' lim : Nat) (wb wp : Bool) (dk : Array Nat), s1 = .int .i64 a' ∧ s2 = .int .i64 b' ∧ s3 = .int .i64 lim ∧ s8 = .bool wb ∧ s9 = .bool wp ∧ a' ≤ b' ∧ b' ≤ n ∧ b' - a' ≤ b - a ∧ lim ≤ 4096 ∧
      Hid (In w0 blk n enc lb sf sb W W.heap.size dk wr ∧ Go.Sort.Below lt a' b' dk ∧ ∀ R, Done lt a' b' dk R → Done lt a b d R)) (fun s1 s2 _ _ _ _ => (intOf s2 - intOf s1).toNat)
    case atStart => exact ⟨a, b, limit, true, true, d, rfl, rfl, rfl, rfl, rfl, hab, hb, Nat.le_refl _, hlim, unhide H0, unhide HB, fun _ h => h⟩
    case round =>
      obtain ⟨a', b', lim, wb, wp, dk, rfl, rfl, rfl, rfl, rfl, hab', hb', hk, hlim', HR⟩ := hrel
      clear H0 HB
      have c0 := HR.out.1.c0
      have c1 := HR.out.1.c1
      have hsz := HR.out.1.st.sz
      by_cases h12 : b' - a' ≤ 12
      · have h12' : (b' : Int) - a' ≤ 12 := by omega
        go_wp2_with fail
        refine (ins_any (unhide HC) HR.out.1.st a' b' hab' hb').mono ?_
        rintro e w1 ⟨rfl, hg, hst⟩
        have hin := HR.out.1.call hg hst
        go_wp2
        refine bodyPost_ret (results_none rfl _ _ _) rfl ?_
        exact ⟨rfl, hin.gr, _, hin.st, HR.out.2.2 _ (insertionSort_holds (unhide HO) dk a' b' hab' (by omega))⟩
      · have h12' : ¬ (b' : Int) - a' ≤ 12 := by omega
        by_cases hl0 : lim = 0
        · subst hl0
          go_wp2_with fail
          refine (heap_any (unhide HC) HR.out.1.st a' b' (by omega) hb').mono ?_
          rintro e w1 ⟨rfl, hg, hst⟩
          have hin := HR.out.1.call hg hst
          go_wp2
          refine bodyPost_ret (results_none rfl _ _ _) rfl ?_
          exact ⟨rfl, hin.gr, _, hin.st, HR.out.2.2 _ (heapSort_holds (unhide HO) dk a' b' hab' (by omega))⟩
        · have hl0' : ((lim : Int) == 0) = false := beq_eq_false_iff_ne.2 (by omega)
          have HI := hide HR.out.1
          have HBel := hide HR.out.2.1
          have HG := hide HR.out.2.2
          clear HR
          have hszk : b' ≤ dk.size := by omega
          -- breakPatterns
          go_upto_if 35 with fail
          go_cut [3] (fun s3 wc => ∃ l1 : Nat, s3 = .int .i64 l1 ∧ l1 ≤ 4096 ∧ Hid (∃ d1, In w0 blk n enc lb sf sb W W.heap.size d1 wc ∧ PermIn a' b' dk d1))
          case first =>
            cases wb with
            | true =>
              go_wp2
              go_meet
              case rel => exact ⟨lim, rfl, hlim', dk, unhide HI, permIn_refl dk a' b'⟩
            | false =>
              go_wp2_with fail
              refine (brk_any (unhide HC) (unhide HI).st a' b' hab' hb').mono ?_
              rintro e w1 ⟨rfl, hg, hst⟩
              have HN := hide ((unhide HI).call hg hst)
              clear hg hst
              go_wp2
              go_meet
              case rel => exact ⟨lim - 1, by congr 1; omega, by omega, _, unhide HN, breakPatterns_holds dk a' b' hab' hszk⟩
          case rest =>
            obtain ⟨l1, rfl, hl1, HX⟩ := hcut
            clear c0 c1
            obtain ⟨d1, hin1, hp1⟩ := HX.out
            clear HX
            have c0 := hin1.c0
            have c1 := hin1.c1
            have hsz1 := hin1.st.sz
            have H1 := hide hin1
            have P1 := hide hp1
            clear hin1 hp1
            go_wp2_with fail
            refine (choose_any (unhide HC) (unhide H1).st a' b' (by omega) hb').mono ?_
            rintro e w1 ⟨pv, hh, hcp, rfl, hg, hst⟩
            have hpr := choosePivot_holds lt d1 a' b' (by omega)
            rw [hcp] at hpr
            obtain ⟨hpa, hpb⟩ := hpr
            have hpa' : a' ≤ pv := hpa
            have hpb' : pv < b' := hpb
            have H2 := hide ((unhide H1).call hg hst)
            clear hg hst hcp c0 c1 hpa hpb
            have c0 := (unhide H2).c0
            have c1 := (unhide H2).c1
            go_upto_if 50 with fail
            go_cut [11, 12] (fun s11 s12 wc => ∃ (p2 : Nat) (hv : Int), s11 = .int .i64 p2 ∧ s12 = .int .i64 hv ∧ a' ≤ p2 ∧ p2 < b' ∧ Hid (∃ d2, In w0 blk n enc lb sf sb W W.heap.size d2 wc ∧ PermIn a' b' dk d2))
            case first =>
              cases hh with
              | unknown =>
                have hb2 : (hintV .unknown == 2) = false := rfl
                go_wp2
                go_meet
                case rel => exact ⟨pv, _, rfl, rfl, hpa', hpb', d1, unhide H2, unhide P1⟩
              | increasing =>
                have hb2 : (hintV .increasing == 2) = false := rfl
                go_wp2
                go_meet
                case rel => exact ⟨pv, _, rfl, rfl, hpa', hpb', d1, unhide H2, unhide P1⟩
              | decreasing =>
                have hb2 : (hintV .decreasing == 2) = true := rfl
                go_wp2_with fail
                refine (rev_any (unhide HC) (unhide H2).st a' b' hab' hb').mono ?_
                rintro e w2 ⟨rfl, hg, hst⟩
                have HN := hide ((unhide H2).call hg hst)
                clear hg hst
                go_wp2
                go_meet
                case rel => exact ⟨(b' - 1) - (pv - a'), _, by congr 1; omega, rfl, by omega, by omega, _, unhide HN, permIn_trans _ _ _ a' b' (unhide P1) (reverseRange_holds d1 a' b' hab' (by omega))⟩
            case rest =>
              obtain ⟨p2, hv, rfl, rfl, hp2a, hp2b, HX⟩ := hcut
              clear c0 c1 H1 P1 H2 hpa' hpb'
              obtain ⟨d2, hin2, hq2⟩ := HX.out
              clear HX
              have c0 := hin2.c0
              have c1 := hin2.c1
              have hsz2 := hin2.st.sz
              have H2 := hide hin2
              have P2 := hide hq2
              have HB2 := hide ((unhide HBel).perm hszk hq2)
              clear hin2 hq2
              go_upto_region 16 with fail
              go_cut [68] (fun s68 wc => ∃ t : Bool, s68 = .bool t ∧ Hid (In w0 blk n enc lb sf sb W W.heap.size d2 wc))
              case first =>
                cases wb with
                | false =>
                  go_wp2
                  go_meet
                  case rel => exact ⟨false, rfl, unhide H2⟩
                | true =>
                  cases wp with
                  | false =>
                    go_wp2
                    go_meet
                    case rel => exact ⟨false, rfl, unhide H2⟩
                  | true =>
                    go_wp2
                    go_meet
                    case rel => exact ⟨_, rfl, unhide H2⟩
              case rest =>
              obtain ⟨t, rfl, HX⟩ := hcut
              clear c0 c1 H2
              have H2 := hide HX.out
              clear HX
              have c0 := (unhide H2).c0
              have c1 := (unhide H2).c1
              go_upto_if 68 with fail
              go_cut [11] (fun s11 wc => s11 = .int .i64 p2 ∧ Hid (∃ d3, In w0 blk n enc lb sf sb W W.heap.size d3 wc ∧ PermIn a' b' dk d3))
              case first =>
                cases t with
                | false =>
                  go_wp2
                  go_meet
                  case rel => exact ⟨rfl, d2, unhide H2, unhide P2⟩
                | true =>
                  have hpi := partialInsertionSort_holds (unhide HO) d2 a' b' (by omega) (by omega) (unhide HB2)
                  have HL := hide (partial_any (unhide HC) (unhide H2).st a' b' (by omega) hb')
                  cases hf : (partialInsertionSort lt d2 a' b').2 with
                  | true =>
                    rw [hf] at HL
                    have HD := hide (show Done lt a' b' d2 (partialInsertionSort lt d2 a' b').1 from ⟨hpi.1, hpi.2 hf⟩)
                    clear hpi hf
                    go_wp2_with fail
                    refine (unhide HL).mono ?_
                    rintro e w2 ⟨rfl, hg, hst⟩
                    have hin := (unhide H2).call hg hst
                    go_wp2
                    refine bodyPost_ret (results_none rfl _ _ _) rfl ?_
                    exact ⟨rfl, hin.gr, _, hin.st, unhide HG _ ⟨permIn_trans _ _ _ a' b' (unhide P2) (unhide HD).1, (unhide HD).2⟩⟩
                  | false =>
                    rw [hf] at HL
                    have HP := hide hpi.1
                    clear hpi hf
                    go_wp2_with fail
                    refine (unhide HL).mono ?_
                    rintro e w2 ⟨rfl, hg, hst⟩
                    have HN := hide ((unhide H2).call hg hst)
                    clear hg hst
                    go_wp2
                    go_meet
                    case rel => exact ⟨rfl, _, unhide HN, permIn_trans _ _ _ a' b' (unhide P2) (unhide HP)⟩
              case rest =>
                clear c0 c1 H2 P2 HB2
                obtain ⟨rfl, HX⟩ := hcut
                obtain ⟨d3, hin3, hq3⟩ := HX.out
                clear HX
                have c0 := hin3.c0
                have c1 := hin3.c1
                have hsz3 := hin3.st.sz
                have H3 := hide hin3
                have P3 := hide hq3
                have HB3 := hide ((unhide HBel).perm hszk hq3)
                clear hin3 hq3
                go_upto_region 18 with fail
                go_cut [83] (fun s83 wc => ∃ t : Bool, s83 = .bool t ∧ Hid (In w0 blk n enc lb sf sb W W.heap.size d3 wc ∧ (t = true → 0 < a' ∧ lt d3[a' - 1]! d3[p2]! = false)))
                case first =>
                  by_cases ha0 : 0 < a'
                  · cases hlv : lt d3[a' - 1]! d3[p2]! with
                    | false =>
                      have HL := hide ((unhide HC).lessB (unhide H3) (a' - 1) p2 false hlv ((a' : Int) - 1) (p2 : Int) (by omega) rfl (by omega) (by omega))
                      have HV := hide hlv
                      clear hlv
                      go_wp2_with fail
                      refine (unhide HL).mono ?_
                      rintro e w2 ⟨rfl, hin⟩
                      have HN := hide hin
                      clear hin
                      go_wp2
                      go_meet
                      case rel => exact ⟨true, rfl, unhide HN, fun _ => ⟨ha0, unhide HV⟩⟩
                    | true =>
                      have HL := hide ((unhide HC).lessB (unhide H3) (a' - 1) p2 true hlv ((a' : Int) - 1) (p2 : Int) (by omega) rfl (by omega) (by omega))
                      clear hlv
                      go_wp2_with fail
                      refine (unhide HL).mono ?_
                      rintro e w2 ⟨rfl, hin⟩
                      have HN := hide hin
                      clear hin
                      go_wp2
                      go_meet
                      case rel => exact ⟨false, rfl, unhide HN, fun h => by cases h⟩
                  · go_wp2
                    go_meet
                    case rel => exact ⟨false, rfl, unhide H3, fun h => by cases h⟩
                case rest =>
                  obtain ⟨t, rfl, HX⟩ := hcut
                  clear c0 c1 H3
                  have H3 := hide HX.out.1
                  have HT := hide HX.out.2
                  clear HX
                  have c0 := (unhide H3).c0
                  have c1 := (unhide H3).c1
                  cases t with
                  | true =>
                    obtain ⟨ha0, hlt⟩ := unhide HT rfl
                    have HV := hide hlt
                    clear hlt HT
                    go_wp2_with fail
                    refine (parteq_any (unhide HC) (unhide H3).st a' b' p2 (by omega) hb' (by omega)).mono ?_
                    rintro e w2 ⟨mid, d4, hpe, rfl, hg, hst⟩
                    obtain ⟨hm1, hm2, hs4, hB4, hD4⟩ := round_eq (unhide HO) (partitionEqual_holds lt) ha0 hp2a hp2b (by omega) (unhide HB3) (unhide HV) hpe
                    have HN := hide ((unhide H3).call hg hst)
                    have HB4 := hide hB4
                    have HD4 := hide (fun R (h : Done lt mid b' d4 R) => unhide HG R ⟨permIn_trans _ _ _ a' b' (unhide P3) (hD4 R h.1 h.2).1, (hD4 R h.1 h.2).2⟩)
                    clear hg hst hpe hB4 hD4 hs4
                    go_wp2
                    go_roundw
                    case rel => exact ⟨mid, b', l1, wb, wp, d4, rfl, rfl, rfl, rfl, rfl, hm2, hb', by omega, hl1, unhide HN, unhide HB4, unhide HD4⟩
                    case measure => simp [intOf]; omega
                  | false =>
                    clear HT
                    go_wp2_with fail
                    refine (part_any (unhide HC) (unhide H3).st a' b' p2 (by omega) hb' (by omega)).mono ?_
                    rintro e w2 ⟨mid, ap, d4, hpt, rfl, hg, hst⟩
                    obtain ⟨hm1, hm2, hs4, hBl, hBr, hDl, hDr⟩ := round_part (unhide HO) (partition_holds lt) hp2a hp2b (by omega) (unhide HB3) hpt
                    have hin4 := (unhide H3).call hg hst
                    have k0 := hin4.c0
                    have k1 := hin4.c1
                    have HN := hide hin4
                    have HBl := hide hBl
                    have HBr := hide hBr
                    have HDl := hide hDl
                    have HDr := hide hDr
                    clear hg hst hpt hBl hBr hDl hDr hs4 hin4
                    by_cases hlr : mid - a' < b' - mid
                    · have hlr' : (mid : Int) - a' < (b' : Int) - mid := by omega
                      go_wp2_with fail
                      refine (unhide IH w2 d4 a' mid l1 (by omega) (unhide HN).st hm1 (by omega) hl1 (unhide HBl)).mono ?_
                      rintro e w3 ⟨rfl, hg, L, hst, hL⟩
                      obtain ⟨hBL, hRL⟩ := unhide HDl L hL.1 hL.2
                      have HM := hide ((unhide HN).call hg hst)
                      have HBL := hide hBL
                      have HRL := hide (fun R (h : Done lt (mid + 1) b' L R) => unhide HG R ⟨permIn_trans _ _ _ a' b' (unhide P3) (hRL R h.1 h.2).1, (hRL R h.1 h.2).2⟩)
                      clear hg hst hL hBL hRL
                      go_wp2
                      go_roundw
                      case rel => exact ⟨mid + 1, b', l1, _, ap, L, by go_num, rfl, rfl, rfl, rfl, by omega, hb', by omega, hl1, unhide HM, unhide HBL, unhide HRL⟩
                      case measure => simp [intOf]; omega
                    · have hlr' : ¬ (mid : Int) - a' < (b' : Int) - mid := by omega
                      go_wp2_with fail
                      have hmid : ((mid + 1 : Nat) : Int) = (mid : Int) + 1 := by omega
                      have IHm := hide (unhide IH w2 d4 (mid + 1) b' l1 (by omega) (unhide HN).st (by omega) hb' hl1 (unhide HBr))
                      rw [hmid] at IHm
                      refine (unhide IHm).mono ?_
                      rintro e w3 ⟨rfl, hg, L, hst, hL⟩
                      obtain ⟨hBL, hRL⟩ := unhide HDr L hL.1 hL.2
                      have HM := hide ((unhide HN).call hg hst)
                      have HBL := hide hBL
                      have HRL := hide (fun R (h : Done lt a' mid L R) => unhide HG R ⟨permIn_trans _ _ _ a' b' (unhide P3) (hRL R h.1 h.2).1, (hRL R h.1 h.2).2⟩)
                      clear hg hst hL hBL hRL hmid IHm
                      go_wp2
                      go_roundw
                      case rel => exact ⟨a', mid, l1, _, ap, L, rfl, rfl, rfl, rfl, rfl, hm1, by omega, by omega, hl1, unhide HM, unhide HBL, unhide HRL⟩
                      case measure => simp [intOf]; omega
end Go.Proofs.Ybulkdadi.Srt
