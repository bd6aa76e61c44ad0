/-
  LawS5078ATies (4): THE WALK.
-/
import Derived.Test.YbulkdadiLaw0
namespace Go.Proofs.Ybulkdadi.Lw
open Go.ChangeShapes Go.WideShapes Go.ChangeAt Go.RowKit Go.Sort Go.Lib Go.Proofs.Ybulkdadi.Srt Go.Proofs.Ybulkdadi.Tm Go.Proofs.Ybulkdadi.Ls Go.Proofs.Ybulkdadi.By Go.Proofs.Ybulkdadi.Pl Go.Proofs.Ybulkdadi.Chk


set_option maxHeartbeats 2000000 in
set_option maxRecDepth 100000 in
theorem ties_pos (ub uo n1 c1 sb so n2 c2 : Nat) (U : Nat → Int) (B : Nat → ByteArray) (w : World) (h1 : n1 ≤ 1024) (h2 : n2 ≤ 1024) (hub : ub < w.heap.size) (hsb : sb < w.heap.size)
    (hU : ∀ k, k < n1 → w.cell? ⟨ub, uo + k, none⟩ = some (.int .u8 (U k))) (hUb : ∀ k, 0 ≤ U k ∧ U k ≤ 255) (hS : ∀ k, k < n2 → w.cell? ⟨sb, so + k, none⟩ = some (.string (B k))) :
    Calls Yba.prog 4 #[.slice (some ⟨ub, uo, none⟩) n1 c1, .slice (some ⟨sb, so, none⟩) n2 c2] w fun e w' => e = .returned (.bool true) ∧ Below w.heap.size w w' := by
  obtain ⟨T, hT⟩ : ∃ T : Nat → Int, ∀ k, T k = U k % 3 := ⟨_, fun _ => rfl⟩
  have HTb0 : ∀ k, -9223372036854775808 ≤ T k ∧ T k ≤ 9223372036854775807 := fun k => by rw [hT]; have := hUb k; omega
  have HT := hide hT
  have HUb := hide hUb
  have HS0 := hide hS
  have HU0 := hide hU
  clear hT hUb hS hU
  have p1 : ¬ (1024 : Int) < n1 := by omega
  have p2 : ¬ (1024 : Int) < n2 := by omega
  by_cases hc : (n2 : Int) < n1
  · obtain ⟨C1, hC1, m1⟩ := mk23 n2 (by omega)
    obtain ⟨C2, hC2, m2⟩ := mk24 n2 (by omega)
    have H0 := hide (LB.start w T B n2 C1 C2 hC1 hC2)
    have HTb := hide (fun k (_ : k < n2) => HTb0 k)
    have HS : Hid (∀ k, k < n2 → w.cell? ⟨sb, so + k, none⟩ = some (.string (B k))) := HS0
    have HU : Hid (∀ k, k < n2 → w.cell? ⟨ub, uo + k, none⟩ = some (.int .u8 (U k))) := fun k hk => unhide HU0 k (by omega)
    clear hC1 hC2 HTb0 HS0 HU0
    go_enter Yba.func4, Yba.ntmps4
    go_wp2
    go_loopw [8] (fun i wr => ∃ k : Nat, k ≤ n2 ∧ i = .int .i64 k ∧ Hid (LB w T B n2 k wr)) (fun i _ => n2 - (intOf i).toNat)
    case atStart => exact ⟨0, Nat.zero_le _, rfl, H0⟩
    case round =>
      clear H0 m1 m2
      obtain ⟨k, hk, rfl, HR⟩ := hrel
      by_cases hlt : k < n2
      · have hx := unhide HTb k hlt
        have cu : wr.cell? ⟨ub, uo + k, none⟩ = some (.int .u8 (U k)) := ((unhide HR).bel.cell (by exact hub)).trans (unhide HU k hlt)
        have cs : wr.cell? ⟨sb, so + k, none⟩ = some (.string (B k)) := ((unhide HR).bel.cell (by exact hsb)).trans (unhide HS k hlt)
        have x1 : wr.cell? ⟨w.heap.size, k, none⟩ = some (.int .i64 0) := by rw [(unhide HR).t.cell k hlt]; simp [tsv]
        have x2 : wr.cell? ⟨w.heap.size + 1, k, none⟩ = some (.string ⟨#[]⟩) := by rw [(unhide HR).b.cell k hlt]; simp [bsv]
        have y1 := (unhide HR).t.froz k hlt
        have y2 := (unhide HR).b.froz k hlt
        have hu := unhide HUb k
        have n1 : ub ≠ w.heap.size := by omega
        have n2 : sb ≠ w.heap.size := by omega
        have n3 : ub ≠ w.heap.size + 1 := by omega
        have n4 : sb ≠ w.heap.size + 1 := by omega
        have ht := unhide HT k
        have HST := hide ((unhide HR).step hlt)
        rw [ht] at HST
        generalize U k = u at cu hu HST
        generalize B k = bk at cs HST
        obtain ⟨hu0, hu1⟩ := hu
        clear ht hx
        go_wp2
        go_roundw
        case rel => exact ⟨k + 1, by omega, by go_num, unhide HST⟩
        case measure => simp [intOf]; omega
      · have ek : k = n2 := by omega
        subst ek
        have HK := hide ((unhide HR).check (by omega) (unhide HTb))
        clear HR
        go_wp2_with fail
        refine (unhide HK).mono ?_
        rintro e w' ⟨rfl, hb⟩
        go_wp2
        go_ret
        exact ⟨rfl, hb⟩
  · obtain ⟨C1, hC1, m1⟩ := mk23 n1 (by omega)
    obtain ⟨C2, hC2, m2⟩ := mk24 n1 (by omega)
    have H0 := hide (LB.start w T B n1 C1 C2 hC1 hC2)
    have HTb := hide (fun k (_ : k < n1) => HTb0 k)
    have HS : Hid (∀ k, k < n1 → w.cell? ⟨sb, so + k, none⟩ = some (.string (B k))) := fun k hk => unhide HS0 k (by omega)
    have HU : Hid (∀ k, k < n1 → w.cell? ⟨ub, uo + k, none⟩ = some (.int .u8 (U k))) := HU0
    clear hC1 hC2 HTb0 HS0 HU0
    go_enter Yba.func4, Yba.ntmps4
    go_wp2
    go_loopw [8] (fun i wr => ∃ k : Nat, k ≤ n1 ∧ i = .int .i64 k ∧ Hid (LB w T B n1 k wr)) (fun i _ => n1 - (intOf i).toNat)
    case atStart => exact ⟨0, Nat.zero_le _, rfl, H0⟩
    case round =>
      clear H0 m1 m2
      obtain ⟨k, hk, rfl, HR⟩ := hrel
      by_cases hlt : k < n1
      · have hx := unhide HTb k hlt
        have cu : wr.cell? ⟨ub, uo + k, none⟩ = some (.int .u8 (U k)) := ((unhide HR).bel.cell (by exact hub)).trans (unhide HU k hlt)
        have cs : wr.cell? ⟨sb, so + k, none⟩ = some (.string (B k)) := ((unhide HR).bel.cell (by exact hsb)).trans (unhide HS k hlt)
        have x1 : wr.cell? ⟨w.heap.size, k, none⟩ = some (.int .i64 0) := by rw [(unhide HR).t.cell k hlt]; simp [tsv]
        have x2 : wr.cell? ⟨w.heap.size + 1, k, none⟩ = some (.string ⟨#[]⟩) := by rw [(unhide HR).b.cell k hlt]; simp [bsv]
        have y1 := (unhide HR).t.froz k hlt
        have y2 := (unhide HR).b.froz k hlt
        have hu := unhide HUb k
        have n1 : ub ≠ w.heap.size := by omega
        have n2 : sb ≠ w.heap.size := by omega
        have n3 : ub ≠ w.heap.size + 1 := by omega
        have n4 : sb ≠ w.heap.size + 1 := by omega
        have ht := unhide HT k
        have HST := hide ((unhide HR).step hlt)
        rw [ht] at HST
        generalize U k = u at cu hu HST
        generalize B k = bk at cs HST
        obtain ⟨hu0, hu1⟩ := hu
        clear ht hx
        go_wp2
        go_roundw
        case rel => exact ⟨k + 1, by omega, by go_num, unhide HST⟩
        case measure => simp [intOf]; omega
      · have ek : k = n1 := by omega
        subst ek
        have HK := hide ((unhide HR).check (by omega) (unhide HTb))
        clear HR
        go_wp2_with fail
        refine (unhide HK).mono ?_
        rintro e w' ⟨rfl, hb⟩
        go_wp2
        go_ret
        exact ⟨rfl, hb⟩

set_option maxHeartbeats 2000000 in
set_option maxRecDepth 100000 in
theorem ties_zero (a1 a2 : Option Addr) (n1 c1 n2 c2 : Nat) (w : World) (h1 : n1 ≤ 1024) (h2 : n2 ≤ 1024) (h0 : n1 = 0 ∨ n2 = 0) :
    Calls Yba.prog 4 #[.slice a1 n1 c1, .slice a2 n2 c2] w fun e w' => e = .returned (.bool true) ∧ Below w.heap.size w w' := by
  obtain ⟨T, hT⟩ : ∃ T : Nat → Int, ∀ k, T k = 0 := ⟨fun _ => 0, fun _ => rfl⟩
  obtain ⟨B, hB⟩ : ∃ B : Nat → ByteArray, ∀ k, B k = ⟨#[]⟩ := ⟨fun _ => ⟨#[]⟩, fun _ => rfl⟩
  have HTb0 : ∀ k, -9223372036854775808 ≤ T k ∧ T k ≤ 9223372036854775807 := fun k => by rw [hT]; decide
  clear hT hB
  have p1 : ¬ (1024 : Int) < n1 := by omega
  have p2 : ¬ (1024 : Int) < n2 := by omega
  by_cases hc : (n2 : Int) < n1
  · obtain ⟨C1, hC1, m1⟩ := mk23 n2 (by omega)
    obtain ⟨C2, hC2, m2⟩ := mk24 n2 (by omega)
    have H0 := hide (LB.start w T B n2 C1 C2 hC1 hC2)
    have HTb := hide (fun k (_ : k < n2) => HTb0 k)
    clear hC1 hC2 HTb0
    go_enter Yba.func4, Yba.ntmps4
    go_wp2
    go_loopw [8] (fun i wr => ∃ k : Nat, k ≤ n2 ∧ i = .int .i64 k ∧ Hid (LB w T B n2 k wr)) (fun i _ => n2 - (intOf i).toNat)
    case atStart => exact ⟨0, Nat.zero_le _, rfl, H0⟩
    case round =>
      clear H0 m1 m2
      obtain ⟨k, hk, rfl, HR⟩ := hrel
      by_cases hlt : k < n2
      · exact absurd hlt (by omega)
      · have ek : k = n2 := by omega
        subst ek
        have HK := hide ((unhide HR).check (by omega) (unhide HTb))
        clear HR
        go_wp2_with fail
        refine (unhide HK).mono ?_
        rintro e w' ⟨rfl, hb⟩
        go_wp2
        go_ret
        exact ⟨rfl, hb⟩
  · obtain ⟨C1, hC1, m1⟩ := mk23 n1 (by omega)
    obtain ⟨C2, hC2, m2⟩ := mk24 n1 (by omega)
    have H0 := hide (LB.start w T B n1 C1 C2 hC1 hC2)
    have HTb := hide (fun k (_ : k < n1) => HTb0 k)
    clear hC1 hC2 HTb0
    go_enter Yba.func4, Yba.ntmps4
    go_wp2
    go_loopw [8] (fun i wr => ∃ k : Nat, k ≤ n1 ∧ i = .int .i64 k ∧ Hid (LB w T B n1 k wr)) (fun i _ => n1 - (intOf i).toNat)
    case atStart => exact ⟨0, Nat.zero_le _, rfl, H0⟩
    case round =>
      clear H0 m1 m2
      obtain ⟨k, hk, rfl, HR⟩ := hrel
      by_cases hlt : k < n1
      · exact absurd hlt (by omega)
      · have ek : k = n1 := by omega
        subst ek
        have HK := hide ((unhide HR).check (by omega) (unhide HTb))
        clear HR
        go_wp2_with fail
        refine (unhide HK).mono ?_
        rintro e w' ⟨rfl, hb⟩
        go_wp2
        go_ret
        exact ⟨rfl, hb⟩

set_option maxHeartbeats 2000000 in
theorem ties_out (a1 a2 : Option Addr) (n1 c1 n2 c2 : Nat) (w : World) (h : 1024 < n1 ∨ 1024 < n2) :
    Calls Yba.prog 4 #[.slice a1 n1 c1, .slice a2 n2 c2] w fun e w' => e = .returned (.bool true) ∧ Below w.heap.size w w' := by
  by_cases h1 : 1024 < n1
  · have p1 : (1024 : Int) < n1 := by omega
    go_enter Yba.func4, Yba.ntmps4
    go_wp2
    go_ret
    exact ⟨rfl, Below.refl _ _⟩
  · have p1 : ¬ (1024 : Int) < n1 := by omega
    have p2 : (1024 : Int) < n2 := by omega
    go_enter Yba.func4, Yba.ntmps4
    go_wp2
    go_ret
    exact ⟨rfl, Below.refl _ _⟩
end Go.Proofs.Ybulkdadi.Lw
