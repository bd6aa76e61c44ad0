/-
  THE WALK OF 'hop.LawS5079BShape' (function 5).
-/
import Derived.Test.YbulkdadwShapeNew
import Derived.Lib.Builder
namespace Go.Proofs.Ybulkdadw.Shape
open Go.ChangeShapes Go.WideShapes Go.ChangeAt Go.RowKit

theorem end_true {v : Value} {w w1 : World} (h : v = .bool true) (hb : Hid (Below w.heap.size w w1)) : Ending.returned v = .returned (.bool true) ∧ Below w.heap.size w w1 := ⟨by rw [h], hb⟩
theorem info46 : (Yba.prog.info? 46).isSome = true := by kernel_rfl

set_option maxRecDepth 100000 in
set_option maxHeartbeats 1000000 in
theorem shape_out (n l : Int) (a : Option Addr) (len cap : Nat) (w : World) (h : n < 0 ∨ 4096 < n ∨ l < -1 ∨ 1048576 < (len : Int)) :
    Calls Yba.prog 5 #[.int .i64 n, .int .i64 l, .slice a len cap] w fun e w' => e = .returned (.bool true) ∧ Below w.heap.size w w' := by
  by_cases h1 : n < 0
  · clear h
    go_enter Yba.func5, Yba.ntmps5
    go_wp2
    go_ret
    exact ⟨rfl, Below.refl _ _⟩
  by_cases h2 : 4096 < n
  · clear h
    go_enter Yba.func5, Yba.ntmps5
    go_wp2
    go_ret
    exact ⟨rfl, Below.refl _ _⟩
  by_cases h3 : l < -1
  · clear h
    go_enter Yba.func5, Yba.ntmps5
    go_wp2
    go_ret
    exact ⟨rfl, Below.refl _ _⟩
  have h4 : 1048576 < (len : Int) := by omega
  clear h
  go_enter Yba.func5, Yba.ntmps5
  go_wp2
  go_ret
  exact ⟨rfl, Below.refl _ _⟩

set_option maxRecDepth 100000 in
set_option maxHeartbeats 2000000 in
theorem shape_in (n : Nat) (l : Int) (a : Option Addr) (len cap : Nat) (w : World) (hn : n ≤ 4096) (hl0 : -1 ≤ l) (hlm : l ≤ 9223372036854775807) (hlen : len ≤ 1048576) :
    Calls Yba.prog 5 #[.int .i64 n, .int .i64 l, .slice a len cap] w fun e w' => e = .returned (.bool true) ∧ Below w.heap.size w w' := by
  have ns49 := fun (w : World) (a : Option Addr) (n c : Nat) => run_neq_slice_nil_any (P := Yba.prog) w 49 3 a n c 0 0 Yba.underlying49
  have ns44 := fun (w : World) (a : Option Addr) (n c : Nat) => run_neq_slice_nil_any (P := Yba.prog) w 44 49 a n c 0 0 Yba.underlying44
  obtain ⟨j46, hj46⟩ := Option.isSome_iff_exists.1 info46
  have hnp := fun (w : World) (a : Addr) => Lib.run_neq_ptr_same w (tp := 42) (te := 46) a Yba.underlying42 hj46
  clear hj46
  have hnew := fun (w1 : World) (hB : w.heap.size < w1.heap.size) h0 h3 => new_any w.heap.size n len cap a l w1 hn hl0 hlen hB h0 h3
  have HN : Hid _ := hnew
  clear hnew
  go_enter Yba.func5, Yba.ntmps5
  go_wp2_with (go_at_call 14; refine (HN.out _ ?_ ?_ ?_).mono ?_)
  · simp
  · simp
  · simp
  rintro e w1 ⟨b, bp, bk, rfl, M⟩
  clear HN
  obtain ⟨pn, hpn⟩ : ∃ pn, pathLen l n = pn := ⟨_, rfl⟩
  obtain ⟨bud, hbud⟩ : ∃ bud, budget len = bud := ⟨_, rfl⟩
  rw [hpn, hbud] at M
  have hB1 : Below w.heap.size w w1 := ((Below.refl _ _).alloc (Nat.le_refl _) _).trans (M.below.mono (by simp))
  have hg0 := (M.below.cell (p := ⟨w.heap.size, 0, none⟩) (by simp))
  have hg3 := (M.below.cell (p := ⟨w.heap.size, 3, none⟩) (by simp))
  simp at hg0 hg3
  obtain ⟨hlt, c0, c1, c2, c3, c4, c5, c6, c7, c8, c9, hpath, hkept, _⟩ := M
  have HB : Hid _ := hB1
  clear hB1
  have hb1 : (if 2 * (len : Int) < 2097152 then 2097152 else 2 * (len : Int)) = bud := hbud
  have hpb : (pn : Int) ≤ 4096 := by subst hpn; unfold pathLen; split <;> omega
  have nn : ((n : Int) != (n : Int)) = false := by simp
  have ll : ((len : Int) != (len : Int)) = false := by simp
  have bb : (bud != bud) = false := by simp
  clear hbud
  have hbd1 : 2 * (len : Int) < 2097152 → (bud != 2097152) = false := fun h => by rw [if_pos h] at hb1; rw [← hb1]; exact bne_self_eq_false _
  have hbd2 : 2097152 ≤ 2 * (len : Int) → (bud != 2 * (len : Int)) = false := fun h => by rw [if_neg (Int.not_lt.2 h)] at hb1; rw [← hb1]; exact bne_self_eq_false _
  have hw1 : l < (n : Int) - 1 → ((pn : Int) != l + 1) = false := fun h => by
    subst hpn; unfold pathLen; rw [if_neg (by omega)]; simp; omega
  have hw2 : ¬ l < (n : Int) - 1 → ((pn : Int) != (n : Int)) = false := fun h => by
    subst hpn; unfold pathLen; split
    · simp
    · simp; omega
  clear hpn hb1 nn ll bb
  by_cases hl : l < (n : Int) - 1
  · have hw := hw1 hl
    clear hw1 hw2
    go_wp2
    go_loop [10] (fun i => ∃ k : Nat, k ≤ pn ∧ i = .int .i64 k) (fun i => pn - (intOf i).toNat)
    case atStart => exact ⟨0, Nat.zero_le _, rfl⟩
    case round =>
      obtain ⟨k, hk, rfl⟩ := hrel
      by_cases hkl : k < pn
      · have hck := hpath k hkl
        clear hbd1 hbd2
        go_wp2
        go_round
        case rel => exact ⟨k + 1, by omega, by go_num⟩
        case measure => simp [intOf]; omega
      · go_wp2
        go_loop [11] (fun i => ∃ k : Nat, k ≤ n ∧ i = .int .i64 k) (fun i => n - (intOf i).toNat)
        case atStart => exact ⟨0, Nat.zero_le _, rfl⟩
        case round =>
          obtain ⟨m, hm, rfl⟩ := hrel
          by_cases hml : m < n
          · have hcm := hkept m hml
            clear hbd1 hbd2
            go_wp2
            go_round
            case rel => exact ⟨m + 1, by omega, by go_num⟩
            case measure => simp [intOf]; omega
          · by_cases hbl : 2 * (len : Int) < 2097152
            · have hbd := hbd1 hbl
              clear hbd1 hbd2 hpath hkept hpb hw
              go_wp2
              go_ret
              exact end_true rfl HB
            · have hbd := hbd2 (Int.not_lt.1 hbl)
              clear hbd1 hbd2 hpath hkept hpb hw
              go_wp2
              go_ret
              exact end_true rfl HB
  · have hw := hw2 hl
    clear hw1 hw2
    go_wp2
    go_loop [10] (fun i => ∃ k : Nat, k ≤ pn ∧ i = .int .i64 k) (fun i => pn - (intOf i).toNat)
    case atStart => exact ⟨0, Nat.zero_le _, rfl⟩
    case round =>
      obtain ⟨k, hk, rfl⟩ := hrel
      by_cases hkl : k < pn
      · have hck := hpath k hkl
        clear hbd1 hbd2
        go_wp2
        go_round
        case rel => exact ⟨k + 1, by omega, by go_num⟩
        case measure => simp [intOf]; omega
      · go_wp2
        go_loop [11] (fun i => ∃ k : Nat, k ≤ n ∧ i = .int .i64 k) (fun i => n - (intOf i).toNat)
        case atStart => exact ⟨0, Nat.zero_le _, rfl⟩
        case round =>
          obtain ⟨m, hm, rfl⟩ := hrel
          by_cases hml : m < n
          · have hcm := hkept m hml
            clear hbd1 hbd2
            go_wp2
            go_round
            case rel => exact ⟨m + 1, by omega, by go_num⟩
            case measure => simp [intOf]; omega
          · by_cases hbl : 2 * (len : Int) < 2097152
            · have hbd := hbd1 hbl
              clear hbd1 hbd2 hpath hkept hpb hw
              go_wp2
              go_ret
              exact end_true rfl HB
            · have hbd := hbd2 (Int.not_lt.1 hbl)
              clear hbd1 hbd2 hpath hkept hpb hw
              go_wp2
              go_ret
              exact end_true rfl HB
end Go.Proofs.Ybulkdadw.Shape
