/-
  zzs5078acheck (5): THE WALK.
-/
import Derived.Test.YbulkdadiCheck1
import Derived.Deep.QuietTactic
import Derived.LaidEql
namespace Go.Proofs.Ybulkdadi.Chk
open Go.ChangeShapes Go.WideShapes Go.ChangeAt Go.RowKit Go.Sort Go.Lib Go.Proofs.Ybulkdadi.Srt Go.Proofs.Ybulkdadi.Tm Go.Proofs.Ybulkdadi.Ls Go.Proofs.Ybulkdadi.By Go.Proofs.Ybulkdadi.Pl

noncomputable def pS : TypeInfo := (Yba.prog.info? 42).get (by kernel_rfl)
theorem pS_eq : Yba.prog.info? 42 = some pS := by kernel_rfl
theorem neq_same (a : Addr) (w : World) : (binOp .neq 32 (.pointer (some a)) (.pointer (some a))).run Yba.prog w = .ok (.bool false) w := by
  have h : ∀ d, (Op.equalIn (d + 1) 32 (.pointer (some a)) (.pointer (some a))).run Yba.prog w = .ok true w := fun d => by
    simp [Op.equalIn, run_underlying Yba.underlying32, sizeOf, typeInfo, pS_eq, run_sameAddr_same]
  simp only [binOp]
  simp [Op.equal, Op.maxDepth, h 9999]

attribute [local irreducible] wpQuiet
set_option maxHeartbeats 4000000 in
set_option maxRecDepth 100000 in
theorem check_any (w : World) (tb bb n c c' : Nat) (T : Nat → Int) (B : Nat → ByteArray) (hn : n ≤ 1024) (htb : tb < w.heap.size) (hbb : bb < w.heap.size)
    (hT : ∀ k, k < n → w.cell? ⟨tb, k, none⟩ = some (.int .i64 (T k))) (hB : ∀ k, k < n → w.cell? ⟨bb, k, none⟩ = some (.string (B k))) (hTb : ∀ k, k < n → -9223372036854775808 ≤ T k ∧ T k ≤ 9223372036854775807) :
    Calls Yba.prog 5 #[.slice (some ⟨tb, 0, none⟩) n c, .slice (some ⟨bb, 0, none⟩) n c'] w fun e w' => e = .returned (.bool true) ∧ Below w.heap.size w w' := by
  obtain ⟨C1, hC1, m1⟩ := mk31 n (by omega)
  obtain ⟨C2, hC2, m2⟩ := mk46 n (by omega)
  obtain ⟨C3, hC3, m3⟩ := mk48 n (by omega)
  have H0 : Hid (L1 w T B n 0 (fun _ => 0) ((w.alloc (.cells C1 32)).alloc (.cells C1 32))) := by
    have bel : Below w.heap.size w ((w.alloc (.cells C1 32)).alloc (.cells C1 32)) := ((Below.refl _ _).alloc (Nat.le_refl _) _).alloc (by simp) _
    have r1 : Row (w.alloc (.cells C1 32)) w.heap.size n (ptrs (fun _ => 0) 0) := Row.new w C1 32 n _ (fun j hj => by rw [hC1 j hj]; simp [ptrs])
    have r2 : Row ((w.alloc (.cells C1 32)).alloc (.cells C1 32)) (w.alloc (.cells C1 32)).heap.size n (ptrs (fun _ => 0) 0) := Row.new _ C1 32 n _ (fun j hj => by rw [hC1 j hj]; simp [ptrs])
    exact ⟨bel, r1.alloc _, by simpa using r2, fun j hj => by omega, fun j hj => by omega, fun j hj => by omega⟩
  have hm : Yba.prog.follows .mixedOrders = true := by kernel_rfl
  have HT := hide hT
  have HB := hide hB
  have HTb := hide hTb
  have HC2 := hide hC2
  have HC3 := hide hC3
  clear hC1 hC2 hC3 hT hB hTb
  go_enter Yba.func5, Yba.ntmps5
  go_wp2
  go_loopw [8] (fun i wr => ∃ (k : Nat) (A : Nat → Nat), k ≤ n ∧ i = .int .i64 k ∧ Hid (L1 w T B n k A wr)) (fun i _ => n - (intOf i).toNat)
  case atStart => exact ⟨0, _, Nat.zero_le _, rfl, H0⟩
  case round =>
    clear H0 m1
    obtain ⟨k, A, hk, rfl, HR⟩ := hrel
    by_cases hlt : k < n
    · have ct : wr.cell? ⟨tb, k, none⟩ = some (.int .i64 (T k)) := ((unhide HR).bel.cell (by exact htb)).trans (unhide HT k hlt)
      have cb : wr.cell? ⟨bb, k, none⟩ = some (.string (B k)) := ((unhide HR).bel.cell (by exact hbb)).trans (unhide HB k hlt)
      have htw : tb < wr.heap.size := Nat.lt_of_lt_of_le htb (unhide HR).bel.size
      have hx : w.heap.size + 2 ≤ wr.heap.size := (unhide HR).p.lt
      have ha := unhide HTb k hlt
      generalize htk : T k = t at ct ha
      generalize hbk : B k = bk at cb
      have HA := hide (fun W => add_any t W ha.1 ha.2)
      clear ha
      go_wp2_with fail
      refine (unhide HA _).mono ?_
      rintro e w2 ⟨rfl, hb2⟩
      have x12 : w2.cell? ⟨wr.heap.size, 12, none⟩ = some (.int .u64 0) := (hb2.cell (p := ⟨wr.heap.size, 12, none⟩) (by simp)).trans (by simp)
      have x13 : w2.cell? ⟨wr.heap.size, 13, none⟩ = some (.int .i64 0) := (hb2.cell (p := ⟨wr.heap.size, 13, none⟩) (by simp)).trans (by simp)
      have x14 : w2.cell? ⟨wr.heap.size, 14, none⟩ = some (.pointer none) := (hb2.cell (p := ⟨wr.heap.size, 14, none⟩) (by simp)).trans (by simp)
      have f12 : w2.frozen? ⟨wr.heap.size, 12, none⟩ = false := (hb2.frozen (p := ⟨wr.heap.size, 12, none⟩) (by simp)).trans (by simp)
      have f13 : w2.frozen? ⟨wr.heap.size, 13, none⟩ = false := (hb2.frozen (p := ⟨wr.heap.size, 13, none⟩) (by simp)).trans (by simp)
      have f14 : w2.frozen? ⟨wr.heap.size, 14, none⟩ = false := (hb2.frozen (p := ⟨wr.heap.size, 14, none⟩) (by simp)).trans (by simp)
      have re := ((unhide HR).e.alloc _).below hb2
      have rp := ((unhide HR).p.alloc _).below hb2
      have xe : w2.cell? ⟨w.heap.size, k, none⟩ = some (.pointer none) := by rw [re.cell k hlt]; simp [ptrs]
      have fe := re.froz k hlt
      have xp : w2.cell? ⟨w.heap.size + 1, k, none⟩ = some (.pointer none) := by rw [rp.cell k hlt]; simp [ptrs]
      have fp := rp.froz k hlt
      have n1 : w.heap.size ≠ wr.heap.size := by omega
      have n2 : w.heap.size + 1 ≠ wr.heap.size := by omega
      have n1' : wr.heap.size ≠ w.heap.size := by omega
      have n2' : wr.heap.size ≠ w.heap.size + 1 := by omega
      have H2 := hide hb2
      have H3 := hide re
      have H4 := hide rp
      clear hb2 re rp HA
      unfold tv
      go_wp2
      go_roundw
      case rel =>
        subst htk hbk
        exact ⟨k + 1, _, by omega, by go_num, (unhide HR).step hlt (unhide H2)⟩
      case measure => simp [intOf]; omega
    · have ek : k = n := by omega
      subst ek
      have HS := hide (sortBy_any wr w.heap.size k k (Array.range k) (cl k A) (cl k T) (cl k B) (unhide HR).e.lt (by omega) (fun h2 => (unhide HR).items h2) (unhide HR).row (by simp))
      go_wp2_with fail
      refine (unhide HS).mono ?_
      rintro e w3 ⟨rfl, hg3, R, hH3, hD3⟩
      have H3 := hide ((unhide HR).sorted hg3 hH3 hD3)
      clear HS HR hg3 hH3 hD3
      have R2 : Hid (Below w3.heap.size w3 (w3.alloc (.cells C2 3)) ∧ Row (w3.alloc (.cells C2 3)) w3.heap.size k (fun j => if j < 0 then .int .i64 (j : Int) else .int .i64 0)) :=
        ⟨(Below.refl _ _).alloc (Nat.le_refl _) _, Row.new _ _ _ _ _ (fun j hj => by rw [unhide HC2 j hj]; simp)⟩
      go_wp2
      go_loopw [11] (fun i wr => ∃ m : Nat, m ≤ k ∧ i = .int .i64 m ∧ Hid (Below w3.heap.size w3 wr ∧ Row wr w3.heap.size k (fun j => if j < m then .int .i64 (j : Int) else .int .i64 0))) (fun i _ => k - (intOf i).toNat)
      case atStart => exact ⟨0, Nat.zero_le _, rfl, R2⟩
      case round =>
        clear R2 m2
        obtain ⟨m, hmm, rfl, HR2⟩ := hrel
        by_cases hmt : m < k
        · have g0 : wr.cell? ⟨w3.heap.size, m, none⟩ = some (.int .i64 0) := by rw [(unhide HR2).2.cell m hmt]; simp
          have g1 := (unhide HR2).2.froz m hmt
          go_wp2
          go_roundw
          case rel =>
            exact ⟨m + 1, by omega, by go_num, (unhide HR2).1.setCell (Nat.le_refl _) _, ((unhide HR2).2.set m hmt _).ext (fun j _ => by
              by_cases e : j = m
              · subst e; simp
              · rw [if_neg e]; by_cases h2 : j < m
                · rw [if_pos h2, if_pos (by omega)]
                · rw [if_neg h2, if_neg (by omega)])⟩
          case measure => simp [intOf]; omega
        · have em : m = k := by omega
          have R3 : Hid (L3 w3 w3.heap.size k (Array.range k) wr) := ⟨(unhide HR2).1, (unhide HR2).2.ext (fun j hj => by unfold ints; rw [range_at k j hj, if_pos (by omega)]), by simp, fun j hj => by rw [range_at k j hj]; exact hj⟩
          clear HR2 em
          go_wp2
          go_loopw [12] (fun i wr => ∃ (m : Nat) (d : Array Nat), i = .int .i64 m ∧ 1 ≤ m ∧ m ≤ k + 1 ∧ Hid (L3 w3 w3.heap.size k d wr ∧ insOuter (ltA (cl k T) (cl k B)) 0 k m d = insOuter (ltA (cl k T) (cl k B)) 0 k 1 (Array.range k))) (fun i _ => k + 1 - (intOf i).toNat)
          case atStart => exact ⟨1, Array.range k, by go_num, by omega, by omega, unhide R3, rfl⟩
          case round =>
            clear R3
            obtain ⟨m, d, rfl, hm1, hmk, HR3⟩ := hrel
            by_cases hmk' : m < k
            · go_wp2
              go_loopw [13] (fun i wr => ∃ (q : Nat) (dj : Array Nat), i = .int .i64 q ∧ q ≤ m ∧ Hid (L3 w3 w3.heap.size k dj wr ∧ insInner (ltA (cl k T) (cl k B)) 0 q dj = insInner (ltA (cl k T) (cl k B)) 0 m d)) (fun i _ => (intOf i).toNat)
              case atStart => exact ⟨m, d, rfl, Nat.le_refl _, (unhide HR3).1, rfl⟩
              case round =>
                obtain ⟨q, dj, rfl, hqm, HI⟩ := hrel
                have OUT := hide (fun (hstop : q ≤ 0 ∨ ltA (cl k T) (cl k B) dj[q]! dj[q - 1]! = false) => show insOuter (ltA (cl k T) (cl k B)) 0 k (m + 1) dj = insOuter (ltA (cl k T) (cl k B)) 0 k 1 (Array.range k) by
                  rw [← (unhide HR3).2, insOuter_go _ _ _ _ _ hmk', ← (unhide HI).2, insInner_stop _ _ _ _ hstop])
                by_cases hq0 : q = 0
                · subst hq0
                  go_wp2
                  go_quiet (fail)
                  have b4 : Below wr.heap.size wr (wr.drewN nq) := ⟨rfl, rfl, rfl, Nat.le_refl _, fun _ _ => rfl⟩
                  go_wp2
                  go_roundw
                  case rel => exact ⟨m + 1, dj, by go_num, by omega, by omega, ⟨(unhide HI).1.bel.trans (b4.mono (unhide HI).1.bel.size), (unhide HI).1.row.below b4, (unhide HI).1.sz, (unhide HI).1.lt⟩, unhide OUT (.inl (by omega))⟩
                  case measure => simp [intOf]; omega
                · obtain ⟨p, rfl⟩ : ∃ p, q = p + 1 := ⟨q - 1, by omega⟩
                  have hx := (unhide HI).1.lt (p + 1) (by omega)
                  have hy := (unhide HI).1.lt p (by omega)
                  have o1 := (unhide HI).1.row.cell (p + 1) (by omega)
                  have o2 := (unhide HI).1.row.cell p (by omega)
                  have f1 := (unhide HI).1.row.froz (p + 1) (by omega)
                  have f2 := (unhide HI).1.row.froz p (by omega)
                  have hol := (unhide HI).1.row.lt
                  have b3 := (unhide H3).below (unhide HI).1.bel
                  have tx : ∀ i, i < k → wr.cell? ⟨tb, i, none⟩ = some (.int .i64 (cl k T i)) := fun i hi => by rw [cl_lt T hi]; exact (b3.bel.cell (by exact htb)).trans (unhide HT i hi)
                  have bx : ∀ i, i < k → wr.cell? ⟨bb, i, none⟩ = some (.string (cl k B i)) := fun i hi => by rw [cl_lt B hi]; exact (b3.bel.cell (by exact hbb)).trans (unhide HB i hi)
                  have htw : tb < wr.heap.size := Nat.lt_of_lt_of_le htb b3.bel.size
                  have hbw : bb < wr.heap.size := Nat.lt_of_lt_of_le hbb b3.bel.size
                  have hz : ∀ N : Nat, Calls Yba.prog 8 #[.slice (some ⟨tb, 0, none⟩) k c, .slice (some ⟨bb, 0, none⟩) k c', .int .i64 (dj[p + 1]! : Int), .int .i64 (dj[p]! : Int)] (wr.drewN N) fun e w' => e = .returned (.bool (ltA (cl k T) (cl k B) dj[p + 1]! dj[p]!)) ∧ ∃ q, w' = (wr.drewN N).drewN q := fun N =>
                    zless_any (wr.drewN N) tb bb k c c' dj[p + 1]! dj[p]! _ _ _ _ hx hy (tx _ hx) (tx _ hy) (bx _ hx) (bx _ hy)
                  unfold ints at o1 o2
                  have hcast : (((p + 1 : Nat) : Int)) = (p : Int) + 1 := by omega
                  cases hlv : ltA (cl k T) (cl k B) dj[p + 1]! dj[p]! with
                  | true =>
                    rw [hlv] at hz
                    have HZ := hide hz
                    have HE := hide (insInner_go (ltA (cl k T) (cl k B)) 0 (p + 1) dj (by omega) hlv)
                    clear hz hlv tx bx b3 OUT
                    rw [hcast]
                    generalize hX : dj[p + 1]! = x at HZ o1 hx
                    generalize hY : dj[p]! = y at HZ o2 hy
                    go_wp2
                    go_quiet (exact Calls.quiet_of (unhide HZ _))
                    have b4 : Below wr.heap.size wr (wr.drewN nq) := ⟨rfl, rfl, rfl, Nat.le_refl _, fun _ _ => rfl⟩
                    go_wp2
                    go_roundw
                    case rel =>
                      have h4 : L3 w3 w3.heap.size k dj (wr.drewN nq) := ⟨(unhide HI).1.bel.trans (b4.mono (unhide HI).1.bel.size), (unhide HI).1.row.below b4, (unhide HI).1.sz, (unhide HI).1.lt⟩
                      subst hX hY
                      refine ⟨p, swp dj (p + 1) p, by go_num, by omega, ⟨(h4.bel.setCell (Nat.le_refl _) _).setCell (Nat.le_refl _) _, ints_swp h4.row h4.sz p (by omega), by rw [size_swp]; exact h4.sz, swp_lt h4.sz h4.lt (by omega) (by omega)⟩, ?_⟩
                      rw [← (unhide HI).2, unhide HE]
                      rfl
                    case measure => first | (simp [intOf]; done) | (simp [intOf]; omega)
                  | false =>
                    rw [hlv] at hz
                    have HZ := hide hz
                    have HE := hide hlv
                    clear hz hlv tx bx b3 f1 f2
                    rw [hcast]
                    generalize hX : dj[p + 1]! = x at HZ o1 hx
                    generalize hY : dj[p]! = y at HZ o2 hy
                    go_wp2
                    go_quiet (exact Calls.quiet_of (unhide HZ _))
                    have b4 : Below wr.heap.size wr (wr.drewN nq) := ⟨rfl, rfl, rfl, Nat.le_refl _, fun _ _ => rfl⟩
                    go_wp2
                    go_roundw
                    case rel => exact ⟨m + 1, dj, by go_num, by omega, by omega, ⟨(unhide HI).1.bel.trans (b4.mono (unhide HI).1.bel.size), (unhide HI).1.row.below b4, (unhide HI).1.sz, (unhide HI).1.lt⟩, unhide OUT (.inr (unhide HE))⟩
                    case measure => simp [intOf]; omega
            · have HO : Hid (L3 w3 w3.heap.size k d wr ∧ Done (ltA (cl k T) (cl k B)) 0 k (Array.range k) d) := by
                refine ⟨(unhide HR3).1, ?_⟩
                have h := (unhide HR3).2
                rw [insOuter_stop _ _ _ _ _ hmk'] at h
                rw [h]
                exact insertionSort_holds (swo _ _) (Array.range k) 0 k (Nat.zero_le _) (by simp)
              clear HR3
              obtain ⟨w5, hw5⟩ : ∃ w5, w5 = wr := ⟨_, rfl⟩
              subst hw5
              have R5 : Hid (Below w5.heap.size w5 (w5.alloc (.cells C3 4)) ∧ Row (w5.alloc (.cells C3 4)) w5.heap.size k (seen R 0)) :=
                ⟨(Below.refl _ _).alloc (Nat.le_refl _) _, Row.new _ _ _ _ _ (fun j hj => by rw [unhide HC3 j hj]; simp [seen])⟩
              go_wp2
              go_loopw [16] (fun i wr => ∃ q : Nat, q ≤ k ∧ i = .int .i64 q ∧ Hid (Below w5.heap.size w5 wr ∧ Row wr w5.heap.size k (seen R q))) (fun i _ => k - (intOf i).toNat)
              case atStart => exact ⟨0, Nat.zero_le _, rfl, R5⟩
              case round =>
                clear R5 m3
                obtain ⟨q, hqk, rfl, H5⟩ := hrel
                have bw : Below w3.heap.size w3 wr := (unhide HO).1.bel.trans ((unhide H5).1.mono (unhide HO).1.bel.size)
                have b2 := (unhide H3).below bw
                by_cases hqt : q < k
                · have b5 := (unhide H5).1
                  have hx := done_lt (unhide H3).done q hqt
                  have hy := (unhide HO).1.lt q hqt
                  have hk2 := same_keys (cl k T) (cl k B) (Array.range k) R d (by simpa using (unhide H3).done) (by simpa using (unhide HO).2) q (by simpa using hqt)
                  rw [cl_lt T hx, cl_lt T hy, cl_lt B hx, cl_lt B hy] at hk2
                  have ce : wr.cell? ⟨w.heap.size, q, none⟩ = some (.pointer (some ⟨A R[q]!, 0, none⟩)) := by rw [b2.e.cell q hqt]; simp only [encA, cl_lt A hx]
                  have cp : wr.cell? ⟨w.heap.size + 1, R[q]!, none⟩ = some (.pointer (some ⟨A R[q]!, 0, none⟩)) := by rw [b2.p.cell _ hx]; unfold ptrs; rw [if_pos hx]
                  have cs : wr.cell? ⟨w5.heap.size, R[q]!, none⟩ = some (.bool false) := by rw [(unhide H5).2.cell _ hx, seen_not (unhide H3).done q hqt]
                  have fs := (unhide H5).2.froz _ hx
                  have co : wr.cell? ⟨w3.heap.size, q, none⟩ = some (.int .i64 (d[q]! : Int)) := ((unhide HO).1.row.below b5).cell q hqt
                  have tx : wr.cell? ⟨tb, R[q]!, none⟩ = some (.int .i64 (T R[q]!)) := (b2.bel.cell (by exact htb)).trans (unhide HT _ hx)
                  have ty : wr.cell? ⟨tb, d[q]!, none⟩ = some (.int .i64 (T R[q]!)) := by rw [← hk2.1]; exact (b2.bel.cell (by exact htb)).trans (unhide HT _ hy)
                  have bx : wr.cell? ⟨bb, R[q]!, none⟩ = some (.string (B R[q]!)) := (b2.bel.cell (by exact hbb)).trans (unhide HB _ hx)
                  have bY : wr.cell? ⟨bb, d[q]!, none⟩ = some (.string (B R[q]!)) := by rw [← hk2.2]; exact (b2.bel.cell (by exact hbb)).trans (unhide HB _ hy)
                  obtain ⟨e0, e1, e4, e12, e13, e14⟩ := b2.ent _ hx
                  have ha := b2.hi _ hx
                  have ha5 : A R[q]! < w5.heap.size := ((unhide H3).below (unhide HO).1.bel).hi _ hx
                  have hTb := unhide HTb _ hx
                  have hO5 : w3.heap.size < w5.heap.size := (unhide HO).1.row.lt
                  have hw3 : w.heap.size + 2 ≤ w3.heap.size := (unhide H3).p.lt
                  have HN : Hid (Row (wr.setCell ⟨w5.heap.size, R[q]!, none⟩ (.bool true)) w5.heap.size k (seen R (q + 1)) ∧ Below w5.heap.size w5 (wr.setCell ⟨w5.heap.size, R[q]!, none⟩ (.bool true))) :=
                    ⟨((unhide H5).2.set _ hx _).ext (fun j _ => seen_step R q j), b5.setCell (Nat.le_refl _) _⟩
                  have hs5 : w5.heap.size < wr.heap.size := (unhide H5).2.lt
                  have HA := hide (fun W => add_any (T R[q]!) W hTb.1 hTb.2)
                  have e9 : ∀ W : World, Calls Yba.prog 9 #[tv (T R[q]! % 1000000000) (T R[q]! / 1000000000), tv (T R[q]! % 1000000000) (T R[q]! / 1000000000)] W fun e w' => e = .returned (.bool true) ∧ Below W.heap.size W w' := fun W => by
                    have h := equal_any (T R[q]! % 1000000000) (T R[q]! / 1000000000) (T R[q]! % 1000000000) (T R[q]! / 1000000000) W (by omega) (by omega) (by omega) (by omega)
                    simpa using h
                  unfold tv at e9
                  have HE := hide e9
                  clear e9 hk2 b2 bw hTb b5
                  generalize T R[q]! = t at HA HE tx ty e12 e13
                  generalize B R[q]! = b at bx bY e0
                  generalize A R[q]! = a at ce cp e0 e1 e4 e12 e13 e14 ha ha5
                  generalize R[q]! = x at HN cp cs fs tx bx e1 hx
                  generalize d[q]! = y at co ty bY hy
                  have z1 : ¬ ((x : Int) < 0) := by omega
                  have z2 : ¬ ((k : Int) ≤ (x : Int)) := by omega
                  have d1 : decide ((x : Int) < 0) = false := by simp
                  have n1 : a ≠ w5.heap.size := by omega
                  have n2 : tb ≠ w5.heap.size := by omega
                  have n3 : bb ≠ w5.heap.size := by omega
                  have n4 : w3.heap.size ≠ w5.heap.size := by omega
                  have htr : tb < wr.heap.size := by omega
                  have hbr : bb < wr.heap.size := by omega
                  have o : ∀ (W : World) (g i : Nat), g ≠ w5.heap.size → (W.setCell ⟨w5.heap.size, x, none⟩ (.bool true)).cell? ⟨g, i, none⟩ = W.cell? ⟨g, i, none⟩ := fun W g i hn => World.cell?_setCell_other _ _ _ _ (by intro q; injection q; omega)
                  have E0 := On.cell (w := wr.setCell ⟨w5.heap.size, x, none⟩ (.bool true)) (a := ⟨a, 0, none⟩) (by simpa [World.setCell] using ha) ((o _ _ _ n1).trans e0)
                  have E4 := On.cell (w := wr.setCell ⟨w5.heap.size, x, none⟩ (.bool true)) (a := ⟨a, 4, none⟩) (by simpa [World.setCell] using ha) ((o _ _ _ n1).trans e4)
                  have E12 := On.cell (w := wr.setCell ⟨w5.heap.size, x, none⟩ (.bool true)) (a := ⟨a, 12, none⟩) (by simpa [World.setCell] using ha) ((o _ _ _ n1).trans e12)
                  have E13 := On.cell (w := wr.setCell ⟨w5.heap.size, x, none⟩ (.bool true)) (a := ⟨a, 13, none⟩) (by simpa [World.setCell] using ha) ((o _ _ _ n1).trans e13)
                  have E14 := On.cell (w := wr.setCell ⟨w5.heap.size, x, none⟩ (.bool true)) (a := ⟨a, 14, none⟩) (by simpa [World.setCell] using ha) ((o _ _ _ n1).trans e14)
                  have TX := On.cell (w := wr.setCell ⟨w5.heap.size, x, none⟩ (.bool true)) (a := ⟨tb, x, none⟩) (by simpa [World.setCell] using htr) ((o _ _ _ n2).trans tx)
                  have TY := On.cell (w := wr.setCell ⟨w5.heap.size, x, none⟩ (.bool true)) (a := ⟨tb, y, none⟩) (by simpa [World.setCell] using htr) ((o _ _ _ n2).trans ty)
                  have BX := On.cell (w := wr.setCell ⟨w5.heap.size, x, none⟩ (.bool true)) (a := ⟨bb, x, none⟩) (by simpa [World.setCell] using hbr) ((o _ _ _ n3).trans bx)
                  have BY := On.cell (w := wr.setCell ⟨w5.heap.size, x, none⟩ (.bool true)) (a := ⟨bb, y, none⟩) (by simpa [World.setCell] using hbr) ((o _ _ _ n3).trans bY)
                  have CO := On.cell (w := wr.setCell ⟨w5.heap.size, x, none⟩ (.bool true)) (a := ⟨w3.heap.size, q, none⟩) (by simp [World.setCell]; omega) ((o _ _ _ n4).trans co)
                  have hneq : ∀ W : World, (binOp .neq 32 (.pointer (some ⟨a, 0, none⟩)) (.pointer (some ⟨a, 0, none⟩))).run Yba.prog W = .ok (.bool false) W := fun W => neq_same _ W
                  clear o z1
                  go_wp2
                  refine wp_region_quiet_on (Below.refl _ (wr.setCell ⟨w5.heap.size, x, none⟩ (.bool true))) hm (by kernel_rfl) ?_
                  repeat (quiet_step (first | exact On.calls _ (unhide HA _) | exact On.calls _ (unhide HE _)))
                  refine wpQuiet_nil ?_
                  rintro _ ⟨w6, rfl⟩
                  go_wp2
                  refine wp_region_quiet_on w6.h hm (by kernel_rfl) ?_
                  repeat (quiet_step (fail))
                  refine wpQuiet_nil ?_
                  rintro _ ⟨w7, rfl⟩
                  go_wp2
                  go_roundw
                  case rel => exact ⟨q + 1, by omega, by go_num, (unhide HN).2.trans (w7.h.mono (unhide HN).2.size), (unhide HN).1.below w7.h⟩
                  case measure => simp [intOf]; omega
                · clear H5
                  go_wp2
                  go_ret
                  exact ⟨rfl, b2.bel⟩
end Go.Proofs.Ybulkdadi.Chk
