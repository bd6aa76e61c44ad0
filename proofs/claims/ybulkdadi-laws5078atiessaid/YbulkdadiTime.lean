/-
  time.Time's METHODS AT THIS DUMP, at times without a monotonic clock: nsec (11), sec (17), addSec (12), Add (6), Equal (9), Before (16).
-/
import Derived.Test.YbulkdadiRows
import Derived.WalkKit
import Derived.ProofKit
import Derived.WalkLawsBesides
import Derived.WalkSpells
import Derived.Below
namespace Go.Proofs.Ybulkdadi.Tm
open Go.ChangeShapes Go.WideShapes Go.ChangeAt Go.RowKit

theorem m30 (ns : Int) (h0 : 0 ≤ ns) (h1 : ns < 1073741824) : bits .and .u64 ns 1073741823 = ns := by
  rw [u64_and ns 1073741823 h0 (by omega) (by decide) (by decide)]
  have : ns.toNat &&& (1073741823 : Int).toNat = ns.toNat := by
    show ns.toNat &&& 1073741823 = ns.toNat
    rw [show (1073741823 : Nat) = 2 ^ 30 - 1 from by decide, Nat.and_two_pow_sub_one_eq_mod]
    exact Nat.mod_eq_of_lt (by rw [show (2 : Nat) ^ 30 = 1073741824 from by decide]; omega)
  rw [this]; omega
theorem and63 (x : Nat) (h : x < 1073741824) : x &&& 9223372036854775808 = 0 := by
  rw [show (9223372036854775808 : Nat) = 2 ^ 63 from by decide +kernel]
  have hb : x.testBit 63 = false := Nat.testBit_lt_two_pow (Nat.lt_of_lt_of_le h (by decide +kernel))
  apply Nat.eq_of_testBit_eq
  intro i
  rw [Nat.testBit_and, Nat.testBit_two_pow, Nat.zero_testBit]
  by_cases hi : 63 = i
  · subst hi; rw [hb]; rfl
  · simp [hi]
theorem m63 (ns : Int) (h0 : 0 ≤ ns) (h1 : ns < 1073741824) : (bits .and .u64 ns 9223372036854775808 != 0) = false := by
  rw [u64_and ns 9223372036854775808 h0 (by omega) (by decide) (by decide)]
  have : ns.toNat &&& (9223372036854775808 : Int).toNat = 0 := and63 ns.toNat (by omega)
  rw [this]; rfl
theorem m63ab (a b : Int) (h0 : 0 ≤ a) (h1 : a < 1073741824) (g0 : 0 ≤ b) (g1 : b < 1073741824) : (bits .and .u64 (bits .and .u64 a b) 9223372036854775808 != 0) = false := by
  have e : bits .and .u64 a b = ((a.toNat &&& b.toNat : Nat) : Int) := u64_and a b h0 (by omega) g0 (by omega)
  have hl : a.toNat &&& b.toNat ≤ a.toNat := Nat.and_le_left
  exact m63 _ (by omega) (by omega)

set_option maxHeartbeats 400000 in
theorem nsec_any (B o : Nat) (ns : Int) (w : World) (h0 : 0 ≤ ns) (h1 : ns < 1000000000) (hc : w.cell? ⟨B, o, none⟩ = some (.int .u64 ns)) :
    Calls Yba.prog 11 #[.pointer (some ⟨B, o, none⟩)] w fun e w' => e = .returned (.int .i32 ns) ∧ w' = w := by
  have hm := m30 ns h0 (by omega)
  have hw : wrap32 ns = ns := by unfold wrap32; omega
  go_enter Yba.func11, Yba.ntmps11
  go_wp2
  go_ret
  exact ⟨rfl, rfl⟩
set_option maxHeartbeats 400000 in
theorem sec_any (B o : Nat) (ns s : Int) (w : World) (h0 : 0 ≤ ns) (h1 : ns < 1000000000) (hc : w.cell? ⟨B, o, none⟩ = some (.int .u64 ns)) (hc1 : w.cell? ⟨B, o + 1, none⟩ = some (.int .i64 s)) :
    Calls Yba.prog 17 #[.pointer (some ⟨B, o, none⟩)] w fun e w' => e = .returned (.int .i64 s) ∧ w' = w := by
  have hm := m63 ns h0 (by omega)
  go_enter Yba.func17, Yba.ntmps17
  go_wp2
  go_ret
  exact ⟨rfl, rfl⟩

/-- A time without a monotonic clock, in UTC's zero location. -/
def tv (ns s : Int) : Value := .agg #[.int .u64 ns, .int .i64 s, .pointer none]

set_option maxHeartbeats 1000000 in
theorem equal_any (n1 s1 n2 s2 : Int) (w : World) (a0 : 0 ≤ n1) (a1 : n1 < 1000000000) (b0 : 0 ≤ n2) (b1 : n2 < 1000000000) :
    Calls Yba.prog 9 #[tv n1 s1, tv n2 s2] w fun e w' => e = .returned (.bool (s1 == s2 && n1 == n2)) ∧ Below w.heap.size w w' := by
  have hm := m63ab n1 n2 a0 (by omega) b0 (by omega)
  unfold tv
  have hB : Below w.heap.size w ((w.alloc (.cells #[.int .u64 n1, .int .i64 s1, .pointer none] 38)).alloc (.cells #[.int .u64 n2, .int .i64 s2, .pointer none] 38)) := ((Below.refl _ _).alloc (Nat.le_refl _) _).alloc (by simp) _
  have HB : Hid _ := hB
  clear hB
  have k1 := m63 n1 a0 (by omega)
  have k2 := m63 n2 b0 (by omega)
  have k3 := m30 n1 a0 (by omega)
  have k4 := m30 n2 b0 (by omega)
  have k5 : wrap32 n1 = n1 := by unfold wrap32; omega
  have k6 : wrap32 n2 = n2 := by unfold wrap32; omega
  cases hs : (s1 == s2) with
  | true =>
    cases hn : (n1 == n2) with
    | true =>
      go_enter Yba.func9, Yba.ntmps9
      go_wp2
      go_ret
      exact ⟨rfl, HB⟩
    | false =>
      go_enter Yba.func9, Yba.ntmps9
      go_wp2
      go_ret
      exact ⟨rfl, HB⟩
  | false =>
    go_enter Yba.func9, Yba.ntmps9
    go_wp2
    go_ret
    exact ⟨by simp, HB⟩

set_option maxHeartbeats 1000000 in
theorem before_any (n1 s1 n2 s2 : Int) (w : World) (a0 : 0 ≤ n1) (a1 : n1 < 1000000000) (b0 : 0 ≤ n2) (b1 : n2 < 1000000000) :
    Calls Yba.prog 16 #[tv n1 s1, tv n2 s2] w fun e w' => e = .returned (.bool (decide (s1 < s2 ∨ s1 = s2 ∧ n1 < n2))) ∧ Below w.heap.size w w' := by
  have hm := m63ab n1 n2 a0 (by omega) b0 (by omega)
  unfold tv
  have hB : Below w.heap.size w ((w.alloc (.cells #[.int .u64 n1, .int .i64 s1, .pointer none] 38)).alloc (.cells #[.int .u64 n2, .int .i64 s2, .pointer none] 38)) := ((Below.refl _ _).alloc (Nat.le_refl _) _).alloc (by simp) _
  have HB : Hid _ := hB
  clear hB
  have k1 := m63 n1 a0 (by omega)
  have k2 := m63 n2 b0 (by omega)
  have k3 := m30 n1 a0 (by omega)
  have k4 := m30 n2 b0 (by omega)
  have k5 : wrap32 n1 = n1 := by unfold wrap32; omega
  have k6 : wrap32 n2 = n2 := by unfold wrap32; omega
  by_cases hs : s1 < s2
  · have HD : Hid (decide (s1 < s2 ∨ s1 = s2 ∧ n1 < n2) = true) := decide_eq_true (.inl hs)
    rw [HD.out]
    go_enter Yba.func16, Yba.ntmps16
    go_wp2
    go_ret
    exact ⟨rfl, HB⟩
  · cases he : (s1 == s2) with
    | false =>
      have hne : ¬ s1 = s2 := by simpa using he
      have HD : Hid (decide (s1 < s2 ∨ s1 = s2 ∧ n1 < n2) = false) := decide_eq_false (by rintro (h | ⟨h, _⟩) <;> contradiction)
      rw [HD.out]
      clear hne
      go_enter Yba.func16, Yba.ntmps16
      go_wp2
      go_ret
      exact ⟨rfl, HB⟩
    | true =>
      have heq : s1 = s2 := by simpa using he
      by_cases hn : n1 < n2
      · have HD : Hid (decide (s1 < s2 ∨ s1 = s2 ∧ n1 < n2) = true) := decide_eq_true (.inr ⟨heq, hn⟩)
        rw [HD.out]
        clear heq
        go_enter Yba.func16, Yba.ntmps16
        go_wp2
        go_ret
        exact ⟨rfl, HB⟩
      · have HD : Hid (decide (s1 < s2 ∨ s1 = s2 ∧ n1 < n2) = false) := decide_eq_false (by rintro (h | ⟨_, h⟩) <;> contradiction)
        rw [HD.out]
        clear heq
        go_enter Yba.func16, Yba.ntmps16
        go_wp2
        go_ret
        exact ⟨rfl, HB⟩

end Go.Proofs.Ybulkdadi.Tm
