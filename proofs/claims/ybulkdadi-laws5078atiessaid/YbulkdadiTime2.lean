/-
  (time.Time).Add (6) AT THIS DUMP, from the zero time.
-/
import Derived.Test.YbulkdadiTime
namespace Go.Proofs.Ybulkdadi.Tm
open Go.ChangeShapes Go.WideShapes Go.ChangeAt Go.RowKit

theorem or0 (x : Int) (h0 : 0 ≤ x) (h1 : x < 1073741824) : bits .or .u64 0 x = x := by
  rw [u64_or 0 x (by decide) (by decide) h0 (by omega)]
  show ((0 ||| x.toNat : Nat) : Int) = x
  rw [Nat.zero_or]; omega
theorem an0 : bits .andNot .u64 0 1073741823 = 0 := by decide +kernel
theorem uw (x : Int) (h0 : 0 ≤ x) (h1 : x < 1073741824) : IntKind.u64.wrap x = x := by
  simp [IntKind.wrap, IntKind.bits, IntKind.signed]; omega

set_option maxHeartbeats 1000000 in
theorem add_any (t : Int) (w : World) (h1 : -9223372036854775808 ≤ t) (h2 : t ≤ 9223372036854775807) :
    Calls Yba.prog 6 #[tv 0 0, .int .i64 t] w fun e w' => e = .returned (tv (t % 1000000000) (t / 1000000000)) ∧ Below w.heap.size w w' := by
  unfold tv
  obtain ⟨q, hq⟩ : ∃ q, t.tdiv 1000000000 = q := ⟨_, rfl⟩
  obtain ⟨r, hr⟩ : ∃ r, t.tmod 1000000000 = r := ⟨_, rfl⟩
  have hqr : t = q * 1000000000 + r := by rw [← hq, ← hr]; have := Int.tdiv_mul_add_tmod t 1000000000; omega
  have hr1 : -1000000000 < r := by rw [← hr]; exact Int.lt_tmod_of_pos t (by decide)
  have hr2 : r < 1000000000 := by rw [← hr]; exact Int.tmod_lt_of_pos t (by decide)
  have z1 : bits .and .u64 0 1073741823 = 0 := m30 0 (by decide) (by decide)
  have z2 := an0
  have z3 : wrap32 r = r := by unfold wrap32; omega
  have hq1 : -9223372037 ≤ q := by omega
  have hq2 : q ≤ 9223372037 := by omega
  by_cases hneg : r < 0
  · obtain ⟨x, hx⟩ : ∃ x, r + 1000000000 = x := ⟨_, rfl⟩
    have e1 : t % 1000000000 = x := by omega
    have e2 : t / 1000000000 = q - 1 := by omega
    rw [e1, e2]
    have y1 := or0 x (by omega) (by omega)
    have y2 := uw x (by omega) (by omega)
    have y3 := m63 x (by omega) (by omega)
    have bb : (decide (0 < q - 1) == decide (0 < q - 1)) = true := by simp
    clear e1 e2 hqr h1 h2
    go_enter Yba.func6, Yba.ntmps6
    go_wp2
    go_end0
    go_wp2
    exact bodyPost_ret (v := .agg #[.int .u64 x, .int .i64 (q - 1), .pointer none]) (by simp [results, Yba.results6, go_sem]) rfl ⟨rfl, ((Below.refl _ _).alloc (Nat.le_refl _) _).alloc (by simp) _⟩
  · have e1 : t % 1000000000 = r := by omega
    have e2 : t / 1000000000 = q := by omega
    rw [e1, e2]
    have y1 := or0 r (by omega) (by omega)
    have y2 := uw r (by omega) (by omega)
    have y3 := m63 r (by omega) (by omega)
    have bb : (decide (0 < q) == decide (0 < q)) = true := by simp
    clear e1 e2 hqr h1 h2
    go_enter Yba.func6, Yba.ntmps6
    go_wp2
    go_end0
    go_wp2
    exact bodyPost_ret (v := .agg #[.int .u64 r, .int .i64 (q), .pointer none]) (by simp [results, Yba.results6, go_sem]) rfl ⟨rfl, ((Below.refl _ _).alloc (Nat.le_refl _) _).alloc (by simp) _⟩
end Go.Proofs.Ybulkdadi.Tm
