/-
  THE WALKS OF THE SEAT Ybulkdabe: nextComponent (function 6), zzs5074cfind (7), zzs5074ccheck (5).
-/
import Derived.Test.YbulkdabeRows
import Derived.Test.YbulkdabePlain
import Derived.WalkKit
import Derived.ProofKit
import Derived.WalkLawsBesides
import Derived.Below
import Derived.RegionTactic
import Derived.Deep.QuietTactic
import Derived.BigQuiet
namespace Go.Proofs.Ybulkdabe
open Go.ChangeShapes Go.WideShapes Go.ChangeAt Go.RowKit

def ix : Option Nat → Int
  | none => -1
  | some k => k

theorem ret_int {k : IntKind} {a b : Int} (h : a = b) : Ending.returned (.int k a) = .returned (.int k b) := by rw [h]

set_option maxHeartbeats 1000000 in
theorem find_any (s : ByteArray) (w : World) (hs : s.size ≤ 4096) :
    Calls Yba.prog 7 #[.string s] w fun e w' => e = .returned (.int .i64 (ix (Sep.sep s))) ∧ w' = w := by
  go_enter Yba.func7, Yba.ntmps7
  go_wp2
  go_loop [3, 4] (fun e i => ∃ (k : Nat) (esc : Bool), k ≤ s.size ∧ i = .int .i64 k ∧ e = .bool esc ∧ Hid (Sep.at_ s esc k = Sep.sep s)) (fun _ i => s.size - (intOf i).toNat)
  case atStart => exact ⟨0, false, Nat.zero_le _, rfl, rfl, rfl⟩
  case round =>
    obtain ⟨k, esc, hk, rfl, rfl, hat⟩ := hrel
    by_cases hlt : k < s.size
    · cases esc with
      | true =>
        have HA : Hid (Sep.at_ s false (k + 1) = Sep.sep s) := by rw [← Sep.at_true']; exact hat
        clear hat
        go_wp2
        go_round
        case rel => exact ⟨k + 1, false, by omega, by go_num, rfl, HA⟩
        case measure => simp [intOf]; omega
      | false =>
        by_cases c1 : s[k].toNat = 92
        · have HA : Hid (Sep.at_ s true (k + 1) = Sep.sep s) := by rw [← Sep.at_back s k hlt c1]; exact hat
          have b1 : ((s[k].toNat : Int) == 92) = true := by rw [c1]; rfl
          clear hat c1
          go_wp2
          go_round
          case rel => exact ⟨k + 1, true, by omega, by go_num, rfl, HA⟩
          case measure => simp [intOf]; omega
        · have b1 : ((s[k].toNat : Int) == 92) = false := beq_eq_false_iff_ne.2 (by omega)
          by_cases c2 : s[k].toNat = 44 ∨ s[k].toNat = 43
          · have HA : Hid (some k = Sep.sep s) := by rw [← Sep.at_sep s k hlt c1 c2]; exact hat
            by_cases c3 : s[k].toNat = 44
            · have b2 : ((s[k].toNat : Int) == 44) = true := by rw [c3]; rfl
              clear hat c1 c2 c3
              go_wp2
              go_ret
              exact ⟨ret_int (by rw [← HA.out]; rfl), rfl⟩
            · have b2 : ((s[k].toNat : Int) == 44) = false := beq_eq_false_iff_ne.2 (by omega)
              have b3 : ((s[k].toNat : Int) == 43) = true := by rw [beq_iff_eq]; omega
              clear hat c1 c2 c3
              go_wp2
              go_ret
              exact ⟨ret_int (by rw [← HA.out]; rfl), rfl⟩
          · have HA : Hid (Sep.at_ s false (k + 1) = Sep.sep s) := by rw [← Sep.at_other s k hlt c1 c2]; exact hat
            have b2 : ((s[k].toNat : Int) == 44) = false := beq_eq_false_iff_ne.2 (by omega)
            have b3 : ((s[k].toNat : Int) == 43) = false := beq_eq_false_iff_ne.2 (by omega)
            clear hat c1 c2
            go_wp2
            go_round
            case rel => exact ⟨k + 1, false, by omega, by go_num, rfl, HA⟩
            case measure => simp [intOf]; omega
    · have HN : Hid (none = Sep.sep s) := by rw [← Sep.at_end s esc k (by omega)]; exact hat
      clear hat
      go_wp2
      go_ret
      exact ⟨ret_int (by rw [← HN.out]; rfl), rfl⟩

set_option maxHeartbeats 1000000 in
theorem next_none (s : ByteArray) (w : World) (hs : s.size ≤ 4096) (hn : Hid (none = Sep.sep s)) :
    Calls Yba.prog 6 #[.string s] w fun e w' => e = .returned (.tuple #[.string s, .int .u8 0, .string ByteArray.empty]) ∧ w' = w := by
  go_enter Yba.func6, Yba.ntmps6
  go_wp2
  go_loop [5] (fun i => ∃ (k : Nat), k ≤ s.size + 1 ∧ i = .int .i64 k ∧ Hid (Sep.at_ s false k = none)) (fun i => s.size + 1 - (intOf i).toNat)
  case atStart => exact ⟨0, Nat.zero_le _, rfl, hn.out.symm⟩
  case round =>
    obtain ⟨k, hk, rfl, hat⟩ := hrel
    by_cases hlt : k < s.size
    · by_cases c1 : s[k].toNat = 92
      · have HA : Hid (Sep.at_ s false (k + 2) = none) := by rw [← Sep.at_true' s (k + 1), ← Sep.at_back s k hlt c1]; exact hat
        have b1 : ((s[k].toNat : Int) == 92) = true := by rw [c1]; rfl
        clear hat c1
        go_wp2
        go_round
        case rel => exact ⟨k + 2, by omega, by go_num, HA⟩
        case measure => simp [intOf]; omega
      · have b1 : ((s[k].toNat : Int) == 92) = false := beq_eq_false_iff_ne.2 (by omega)
        have c2 : ¬ (s[k].toNat = 44 ∨ s[k].toNat = 43) := fun c2 => by
          have := Sep.at_sep s k hlt c1 c2; rw [hat.out] at this; cases this
        have HA : Hid (Sep.at_ s false (k + 1) = none) := by rw [← Sep.at_other s k hlt c1 c2]; exact hat
        have b2 : ((s[k].toNat : Int) == 44) = false := beq_eq_false_iff_ne.2 (by omega)
        have b3 : ((s[k].toNat : Int) == 43) = false := beq_eq_false_iff_ne.2 (by omega)
        clear hat c1 c2
        go_wp2
        go_round
        case rel => exact ⟨k + 1, by omega, by go_num, HA⟩
        case measure => simp [intOf]; omega
    · go_wp2
      go_ret3
      exact ⟨rfl, rfl⟩

set_option maxHeartbeats 1000000 in
theorem next_some (s : ByteArray) (w : World) (hs : s.size ≤ 4096) (j : Nat) (hj : j < s.size) (hn : Hid (some j = Sep.sep s)) :
    Calls Yba.prog 6 #[.string s] w fun e w' => e = .returned (.tuple #[.string (s.extract 0 j), .int .u8 s[j].toNat, .string (s.extract (j + 1) s.size)]) ∧ ∃ n, w' = w.drewN n := by
  go_enter Yba.func6, Yba.ntmps6
  go_wp2
  go_loop [5] (fun i => ∃ (k : Nat), k ≤ s.size + 1 ∧ i = .int .i64 k ∧ Hid (Sep.at_ s false k = some j)) (fun i => s.size + 1 - (intOf i).toNat)
  case atStart => exact ⟨0, Nat.zero_le _, rfl, hn.out.symm⟩
  case round =>
    obtain ⟨k, hk, rfl, hat⟩ := hrel
    by_cases hlt : k < s.size
    · by_cases c1 : s[k].toNat = 92
      · have HA : Hid (Sep.at_ s false (k + 2) = some j) := by rw [← Sep.at_true' s (k + 1), ← Sep.at_back s k hlt c1]; exact hat
        have b1 : ((s[k].toNat : Int) == 92) = true := by rw [c1]; rfl
        clear hat c1
        go_wp2
        go_round
        case rel => exact ⟨k + 2, by omega, by go_num, HA⟩
        case measure => simp [intOf]; omega
      · have b1 : ((s[k].toNat : Int) == 92) = false := beq_eq_false_iff_ne.2 (by omega)
        by_cases c2 : s[k].toNat = 44 ∨ s[k].toNat = 43
        · have HA : k = j := by
            have := hat.out; rw [Sep.at_sep s k hlt c1 c2] at this; simpa using this
          subst HA
          by_cases c3 : s[k].toNat = 44
          · have b2 : ((s[k].toNat : Int) == 44) = true := by rw [c3]; rfl
            clear hat c1 c2 c3
            go_wp2
            go_quiet (fail)
            go_wp2
            go_ret3
            exact ⟨rfl, _, rfl⟩
          · have b2 : ((s[k].toNat : Int) == 44) = false := beq_eq_false_iff_ne.2 (by omega)
            have b3 : ((s[k].toNat : Int) == 43) = true := by rw [beq_iff_eq]; omega
            clear hat c1 c2 c3
            go_wp2
            go_quiet (fail)
            go_wp2
            go_ret3
            exact ⟨rfl, _, rfl⟩
        · have HA : Hid (Sep.at_ s false (k + 1) = some j) := by rw [← Sep.at_other s k hlt c1 c2]; exact hat
          have b2 : ((s[k].toNat : Int) == 44) = false := beq_eq_false_iff_ne.2 (by omega)
          have b3 : ((s[k].toNat : Int) == 43) = false := beq_eq_false_iff_ne.2 (by omega)
          clear hat c1 c2
          go_wp2
          go_round
          case rel => exact ⟨k + 1, by omega, by go_num, HA⟩
          case measure => simp [intOf]; omega
    · have := hat.out; rw [Sep.at_end s false k (by omega)] at this; cases this

theorem below_dn (w : World) (n : Nat) : Below w.heap.size w (w.drewN n) := ⟨rfl, rfl, rfl, Nat.le_refl _, fun _ _ => rfl⟩
theorem grown_drewN (w : World) (n : Nat) : Grown w (w.drewN n) := by
  induction n with
  | zero => exact Grown.refl _
  | succ n ih => exact ih.drew
theorem join_back (s : ByteArray) (j : Nat) (h : j < s.size) : s.extract 0 j ++ ⟨#[s[j]]⟩ ++ s.extract (j + 1) s.size = s := by
  apply ByteArray.ext
  apply Array.ext'
  have hp := Sep.pieces s j h
  have h2 : s.size = s.data.size := rfl
  simp only [ByteArray.data_append, ByteArray.data_extract, Array.toList_append, Array.toList_extract, List.extract_eq_take_drop, List.drop_zero, Nat.sub_zero]
  rw [List.take_of_length_le (l := List.drop (j + 1) s.data.toList) (by simp), List.append_assoc]
  exact hp

set_option maxHeartbeats 1000000 in
theorem check_none (s : ByteArray) (w : World) (hs : s.size ≤ 4096) (hn : Hid (none = Sep.sep s)) :
    Calls Yba.prog 5 #[.string s] w fun e w' => e = .returned (.bool true) ∧ Grown w w' ∧ Below w.heap.size w w' := by
  go_enter Yba.func5, Yba.ntmps5
  go_wp2_with (first | (go_at_call 6; refine (next_none _ _ hs hn).mono ?_; rintro e w' ⟨rfl, rfl⟩) | (go_at_call 7; refine (find_any _ _ hs).mono ?_; rintro e w' ⟨rfl, rfl⟩; rw [← hn.out]))
  go_ret
  exact ⟨rfl, Grown.refl _, Below.refl _ _⟩

set_option maxHeartbeats 1000000 in
theorem check_some (s : ByteArray) (w : World) (hs : s.size ≤ 4096) (j : Nat) (hj : j < s.size) (hn : Hid (some j = Sep.sep s)) :
    Calls Yba.prog 5 #[.string s] w fun e w' => e = .returned (.bool true) ∧ Grown w w' ∧ Below w.heap.size w w' := by
  have hjoin : ((s.extract 0 j ++ ⟨#[s[j]]⟩ ++ s.extract (j + 1) s.size).toList == s.toList) = true := by rw [join_back s j hj]; simp
  have hcv : ∀ n, (convert 23 9 (.slice (some ⟨w.heap.size, 0, none⟩) 1 1)).run Yba.prog ((w.drewN n).alloc (.cells #[.int .u8 (s[j].toNat : Int)] 5)) = .ok (.string ⟨#[s[j]]⟩) ((w.drewN n).alloc (.cells #[.int .u8 (s[j].toNat : Int)] 5)) := fun n => by
    refine run_convert_bytes_back (P := Yba.prog) _ 23 9 5 ⟨w.heap.size, 0, none⟩ 1 [s[j]] Yba.underlying23 Yba.underlying5 Yba.underlying9 (fun i hi => ?_)
    obtain rfl : i = 0 := by simpa using hi
    exact World.cell?_alloc_mark (w.drewN n) #[.int .u8 (s[j].toNat : Int)] 5 _ 0
  go_enter Yba.func5, Yba.ntmps5
  go_wp2_with (first | (go_at_call 6; refine (next_some _ _ hs j hj hn).mono ?_; rintro e w' ⟨rfl, n, rfl⟩) | (go_at_call 7; refine (find_any _ _ hs).mono ?_; rintro e w' ⟨rfl, rfl⟩; rw [← hn.out]; simp only [ix]))
  go_ret
  exact ⟨rfl, (grown_drewN _ _).alloc _ _, (below_dn _ _).alloc (Nat.le_refl _) _⟩

theorem check_any (s : ByteArray) (w : World) (hs : s.size ≤ 4096) : Calls Yba.prog 5 #[.string s] w fun e w' => e = .returned (.bool true) ∧ Grown w w' ∧ Below w.heap.size w w' := by
  cases h : Sep.sep s with
  | none => exact check_none s w hs h.symm
  | some j => exact check_some s w hs j (Sep.sep_lt s j h) h.symm
end Go.Proofs.Ybulkdabe
