/-
  LawS5078ASorted (3): THE WALK.
-/
import Derived.Test.YbulkdadiLaw0
namespace Go.Proofs.Ybulkdadi.Lw
open Go.ChangeShapes Go.WideShapes Go.ChangeAt Go.RowKit Go.Sort Go.Lib Go.Proofs.Ybulkdadi.Srt Go.Proofs.Ybulkdadi.Tm Go.Proofs.Ybulkdadi.Ls Go.Proofs.Ybulkdadi.By Go.Proofs.Ybulkdadi.Pl Go.Proofs.Ybulkdadi.Chk


set_option maxHeartbeats 2000000 in
set_option maxRecDepth 100000 in
theorem sorted_pos (ib io n c : Nat) (T : Nat → Int) (B : Nat → ByteArray) (w : World) (h1 : n ≤ 1024) (hib : ib < w.heap.size)
    (hI : ∀ k, k < n → w.cell? ⟨ib, io + k * 2, none⟩ = some (.int .i64 (T k)) ∧ w.cell? ⟨ib, io + k * 2 + 1, none⟩ = some (.string (B k))) (hTb : ∀ k, k < n → -9223372036854775808 ≤ T k ∧ T k ≤ 9223372036854775807) :
    Calls Yba.prog 3 #[.slice (some ⟨ib, io, none⟩) n c] w fun e w' => e = .returned (.bool true) ∧ Below w.heap.size w w' := by
  have HI := hide hI
  have HTb := hide hTb
  clear hI hTb
  have p1 : ¬ (1024 : Int) < n := by omega
  by_cases hc : True
  · obtain ⟨C1, hC1, m1⟩ := mk23 n (by omega)
    obtain ⟨C2, hC2, m2⟩ := mk24 n (by omega)
    have H0 := hide (LB.start w T B n C1 C2 hC1 hC2)
    clear hC1 hC2 hc
    go_enter Yba.func3, Yba.ntmps3
    go_wp2
    go_loopw [6] (fun i wr => ∃ k : Nat, k ≤ n ∧ i = .int .i64 k ∧ Hid (LB w T B n k wr)) (fun i _ => n - (intOf i).toNat)
    case atStart => exact ⟨0, Nat.zero_le _, rfl, H0⟩
    case round =>
      clear H0 m1 m2
      obtain ⟨k, hk, rfl, HR⟩ := hrel
      by_cases hlt : k < n
      · have hx := unhide HTb k hlt
        have cu : wr.cell? ⟨ib, io + k * 2, none⟩ = some (.int .i64 (T k)) := ((unhide HR).bel.cell (by exact hib)).trans (unhide HI k hlt).1
        have cs : wr.cell? ⟨ib, io + k * 2 + 1, none⟩ = some (.string (B k)) := ((unhide HR).bel.cell (by exact hib)).trans (unhide HI k hlt).2
        have x1 : wr.cell? ⟨w.heap.size, k, none⟩ = some (.int .i64 0) := by rw [(unhide HR).t.cell k hlt]; simp [tsv]
        have x2 : wr.cell? ⟨w.heap.size + 1, k, none⟩ = some (.string ⟨#[]⟩) := by rw [(unhide HR).b.cell k hlt]; simp [bsv]
        have y1 := (unhide HR).t.froz k hlt
        have y2 := (unhide HR).b.froz k hlt
        have n1 : ib ≠ w.heap.size := by omega
        have n3 : ib ≠ w.heap.size + 1 := by omega
        have HST := hide ((unhide HR).step hlt)
        generalize T k = u at cu HST
        generalize B k = bk at cs HST
        clear hx
        go_wp2
        go_roundw
        case rel => exact ⟨k + 1, by omega, by go_num, unhide HST⟩
        case measure => simp [intOf]; omega
      · have ek : k = n := by omega
        subst ek
        have HK := hide ((unhide HR).check (by omega) (unhide HTb))
        clear HR
        go_wp2_with fail
        refine (unhide HK).mono ?_
        rintro e w' ⟨rfl, hb⟩
        go_wp2
        go_ret
        exact ⟨rfl, hb⟩
  · exact absurd trivial hc

set_option maxHeartbeats 2000000 in
set_option maxRecDepth 100000 in
theorem sorted_zero (a : Option Addr) (c : Nat) (w : World) :
    Calls Yba.prog 3 #[.slice a 0 c] w fun e w' => e = .returned (.bool true) ∧ Below w.heap.size w w' := by
  obtain ⟨n, hn⟩ : ∃ n : Nat, n = 0 := ⟨0, rfl⟩
  rw [← hn]
  obtain ⟨T, hT⟩ : ∃ T : Nat → Int, ∀ k, T k = 0 := ⟨fun _ => 0, fun _ => rfl⟩
  obtain ⟨B, hB⟩ : ∃ B : Nat → ByteArray, ∀ k, B k = ⟨#[]⟩ := ⟨fun _ => ⟨#[]⟩, fun _ => rfl⟩
  have HTb : Hid (∀ k, k < n → -9223372036854775808 ≤ T k ∧ T k ≤ 9223372036854775807) := fun k _ => by rw [hT]; decide
  clear hT hB
  have HN := hide hn
  have p1 : ¬ (1024 : Int) < n := by omega
  clear hn
  by_cases hc : True
  · obtain ⟨C1, hC1, m1⟩ := mk23 n (by have := unhide HN; omega)
    obtain ⟨C2, hC2, m2⟩ := mk24 n (by have := unhide HN; omega)
    have H0 := hide (LB.start w T B n C1 C2 hC1 hC2)
    clear hC1 hC2 hc
    go_enter Yba.func3, Yba.ntmps3
    go_wp2
    go_loopw [6] (fun i wr => ∃ k : Nat, k ≤ n ∧ i = .int .i64 k ∧ Hid (LB w T B n k wr)) (fun i _ => n - (intOf i).toNat)
    case atStart => exact ⟨0, Nat.zero_le _, rfl, H0⟩
    case round =>
      clear H0 m1 m2
      obtain ⟨k, hk, rfl, HR⟩ := hrel
      by_cases hlt : k < n
      · exact absurd hlt (by have := unhide HN; omega)
      · have ek : k = n := by omega
        subst ek
        have HK := hide ((unhide HR).check (by have := unhide HN; omega) (unhide HTb))
        clear HR
        go_wp2_with fail
        refine (unhide HK).mono ?_
        rintro e w' ⟨rfl, hb⟩
        go_wp2
        go_ret
        exact ⟨rfl, hb⟩
  · exact absurd trivial hc

set_option maxHeartbeats 2000000 in
theorem sorted_out (a : Option Addr) (n c : Nat) (w : World) (h : 1024 < n) :
    Calls Yba.prog 3 #[.slice a n c] w fun e w' => e = .returned (.bool true) ∧ Below w.heap.size w w' := by
  have p1 : (1024 : Int) < n := by omega
  go_enter Yba.func3, Yba.ntmps3
  go_wp2
  go_ret
  exact ⟨rfl, Below.refl _ _⟩
end Go.Proofs.Ybulkdadi.Lw
