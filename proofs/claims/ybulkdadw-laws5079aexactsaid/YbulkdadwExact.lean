/-
  THE WALK OF 'engine.LawS5079AExact' (3).
-/
import Derived.Test.YbulkdadwOutside
namespace Go.Proofs.Ybulkdadw.Fl
open Go.ChangeShapes Go.WideShapes Go.ChangeAt Go.RowKit
set_option linter.unusedVariables false

theorem same_ok (x y : Nat) (w : World) (h : (isN x ∧ isN y) ∨ x = y) :
    Calls Yba.prog 10 #[.float .f64 x, .float .f64 y] w fun e w' => e = .returned (.bool true) ∧ w' = w := by
  rcases h with ⟨h1, h2⟩ | rfl
  · exact same_nan x y w h1 h2
  · exact same_self x w
theorem is_is {f : Nat → Nat} {x u v : Nat} (hu : Is f x u) (hv : Is f x v) : (isN u ∧ isN v) ∨ u = v := by
  rcases hu with ⟨a, b⟩ | ⟨a, b⟩
  · rcases hv with ⟨c, d⟩ | ⟨c, d⟩
    · exact .inl ⟨b, d⟩
    · exact absurd a c
  · rcases hv with ⟨c, d⟩ | ⟨c, d⟩
    · exact absurd c a
    · exact .inr (b.trans d.symm)
theorem mid_mid {x y u v : Nat} (hu : Mid x y u) (hv : ((floatBits .mul .f64 x 4602678819172646912).bind fun p => (floatBits .mul .f64 y 4602678819172646912).bind fun q => Ieee.double.add p q) = some v ∨ (((floatBits .mul .f64 x 4602678819172646912).bind fun p => (floatBits .mul .f64 y 4602678819172646912).bind fun q => Ieee.double.add p q) = none ∧ isN v)) : (isN u ∧ isN v) ∨ u = v := by
  have e : ((floatBits .mul .f64 x 4602678819172646912).bind fun p => (floatBits .mul .f64 y 4602678819172646912).bind fun q => Ieee.double.add p q) = midW x y := (midW_mul x y).symm
  rw [e] at hv
  rcases hu with a | ⟨a, b⟩
  · rcases hv with c | ⟨c, d⟩
    · rw [a] at c; cases c; exact .inr rfl
    · rw [a] at c; cases c
  · rcases hv with c | ⟨c, d⟩
    · rw [a] at c; cases c
    · exact .inl ⟨b, d⟩
theorem bools_keep {w w' : World} {a : Option Addr} {n : Nat} {B : Nat → Bool} (h : Bld.Bools w a n B) (hb : Below w.heap.size w w') : Bld.Bools w' a n B := by
  rcases h with h | ⟨b, off, h, hlt, hc⟩
  · exact .inl h
  · exact .inr ⟨b, off, h, Nat.lt_of_lt_of_le hlt hb.size, fun k hk => (hb.cell (by exact hlt)).trans (hc k hk)⟩

theorem fin (a1 a2 : Option Addr) (n1 c1 n2 c2 n l h : Nat) (B1 B2 : Nat → Bool) (w w1 w3 : World) (h1 : n1 ≤ 1024) (h2 : n2 ≤ 1024) (hnb : n ≤ 4096) (r1 : Bld.Bools w a1 n1 B1) (r2 : Bld.Bools w a2 n2 B2) (hB : Bld.Built w w1 n n1 n2 B1 B2 l h) (hb3 : Below w1.heap.size w1 w3) :
    Below w.heap.size w w3 ∧ (Calls Yba.prog 11 #[.slice a1 n1 c1, .slice (some ⟨l, 0, none⟩) n n] w3 fun e w' => e = .returned (.bool true) ∧ w' = w3) ∧
    (Calls Yba.prog 11 #[.slice a2 n2 c2, .slice (some ⟨h, 0, none⟩) n n] w3 fun e w' => e = .returned (.bool true) ∧ w' = w3) := by
  have hb := hB.below.trans (hb3.mono hB.below.size)
  exact ⟨hb, unchanged_any a1 n1 c1 l n n B1 w3 (by omega) hnb (bools_keep r1 hb) (fun j hj => (hb3.cell (by exact hB.ll)).trans (hB.lo j hj)),
    unchanged_any a2 n2 c2 h n n B2 w3 (by omega) hnb (bools_keep r2 hb) (fun j hj => (hb3.cell (by exact hB.lh)).trans (hB.hi j hj))⟩

set_option maxHeartbeats 1000000 in
theorem exact_early (a1 a2 : Option Addr) (n1 c1 n2 c2 : Nat) (fr to rd : Int) (x y : Nat) (w : World) (h : 1024 < n1 ∨ 1024 < n2) :
    Calls Yba.prog 3 #[.slice a1 n1 c1, .slice a2 n2 c2, .int .i64 fr, .int .u64 to, .int .i64 rd, .float .f64 x, .float .f64 y] w fun e w' => e = .returned (.bool true) ∧ Below w.heap.size w w' := by
  by_cases h1 : 1024 < n1
  · clear h
    go_enter Yba.func3, Yba.ntmps3
    go_wp2
    go_ret
    exact ⟨rfl, Below.refl _ _⟩
  have h2 : 1024 < n2 := by omega
  clear h
  go_enter Yba.func3, Yba.ntmps3
  go_wp2
  go_ret
  exact ⟨rfl, Below.refl _ _⟩

set_option maxHeartbeats 2000000 in
theorem exact_in (a1 a2 : Option Addr) (n1 c1 n2 c2 : Nat) (B1 B2 : Nat → Bool) (fr to rd : Int) (x y : Nat) (w : World) (h1 : n1 ≤ 1024) (h2 : n2 ≤ 1024) (r1 : Bld.Bools w a1 n1 B1) (r2 : Bld.Bools w a2 n2 B2)
    (ht0 : 0 ≤ to) (ht1 : to ≤ 18446744073709551615) (hx : x < 18446744073709551616) (hy : y < 18446744073709551616) :
    Calls Yba.prog 3 #[.slice a1 n1 c1, .slice a2 n2 c2, .int .i64 fr, .int .u64 to, .int .i64 rd, .float .f64 x, .float .f64 y] w fun e w' => e = .returned (.bool true) ∧ Below w.heap.size w w' := by
  obtain ⟨n, hn⟩ : ∃ n, n = max n1 n2 + 1 := ⟨_, rfl⟩
  have HB := hide (Bld.build_any a1 a2 n1 c1 n2 c2 n B1 B2 w h1 h2 hn r1 r2)
  have hnb : n ≤ 4096 := by omega
  have hnp : 0 < n := by omega
  obtain ⟨i, hi⟩ : ∃ i : Nat, to % (n : Int) = i := ⟨(to % (n : Int)).toNat, by have := Int.emod_nonneg to (b := (n : Int)) (by omega); omega⟩
  have hin : i < n := by have := Int.emod_lt_of_pos to (b := (n : Int)) (by omega); omega
  have R1 := hide r1
  have R2 := hide r2
  clear hn r1 r2
  go_enter Yba.func3, Yba.ntmps3
  go_wp2_with (first | (go_at_call 6; refine (unhide HB).mono ?_; rintro e w1 ⟨l, h, rfl, hb⟩))
  clear HB
  have hcl := hb.lo i hin
  have hch := hb.hi i hin
  obtain ⟨bl, hbl⟩ : ∃ b, b = (decide (i < n1) && B1 i) := ⟨_, rfl⟩
  obtain ⟨bh, hbh⟩ : ∃ b, b = (decide (i < n2) && B2 i) := ⟨_, rfl⟩
  rw [← hbl] at hcl
  rw [← hbh] at hch
  clear hbl hbh
  have HB1 := hide hb
  have hll := hb.ll
  have hlh := hb.lh
  clear hb
  refine (send_any l h n i n n x y fr rd w1 hx hy hin hnb hll hlh bl bh hcl hch).mono ?_
  rintro e w2 ⟨v, rfl, hs, hb2⟩
  have hcl2 : w2.cell? ⟨l, i, none⟩ = some (.bool bl) := (hb2.cell (by exact hll)).trans hcl
  have hch2 : w2.cell? ⟨h, i, none⟩ = some (.bool bh) := (hb2.cell (by exact hlh)).trans hch
  -- what holds of the last world: both 'unchanged' say yes
  have HU := hide (fun w3 (hb3 : Below w1.heap.size w1 w3) => fin a1 a2 n1 c1 n2 c2 n l h B1 B2 w w1 w3 h1 h2 hnb (unhide R1) (unhide R2) (unhide HB1) hb3)
  have HB2 := hide hb2
  clear hcl hch HB1 R1 R2 hb2
  cases bl with
  | true =>
    have HZ := hide (fun w => zz_below x w hx)
    have HS := hide hs
    clear hs
    go_wp2_with (first | (go_at_call 8; refine (unhide HZ _).mono ?_; rintro e w' ⟨v', rfl, hv', rfl⟩))
    refine (same_ok v v' _ (is_is HS.out hv')).mono ?_
    rintro e w3 ⟨rfl, rfl⟩
    go_wp2_with fail
    refine ((unhide HU _ (unhide HB2)).2.1).mono ?_
    rintro e w4 ⟨rfl, rfl⟩
    go_wp2_with fail
    refine ((unhide HU _ (unhide HB2)).2.2).mono ?_
    rintro e w5 ⟨rfl, rfl⟩
    go_wp2
    go_ret
    exact ⟨rfl, (unhide HU _ (unhide HB2)).1⟩
  | false =>
    cases bh with
    | true =>
      have HZ := hide (fun w => zz_above y w hy)
      have HS := hide hs
      clear hs
      go_wp2_with (first | (go_at_call 9; refine (unhide HZ _).mono ?_; rintro e w' ⟨v', rfl, hv', rfl⟩))
      refine (same_ok v v' _ (is_is HS.out hv')).mono ?_
      rintro e w3 ⟨rfl, rfl⟩
      go_wp2_with fail
      refine ((unhide HU _ (unhide HB2)).2.1).mono ?_
      rintro e w4 ⟨rfl, rfl⟩
      go_wp2_with fail
      refine ((unhide HU _ (unhide HB2)).2.2).mono ?_
      rintro e w5 ⟨rfl, rfl⟩
      go_wp2
      go_ret
      exact ⟨rfl, (unhide HU _ (unhide HB2)).1⟩
    | false =>
      obtain ⟨p, q, v', k1, k2, k3, e1, e2, e3, hv'⟩ := halves .mul (by simp) 4602678819172646912 x y w2
      have HS := hide (mid_mid hs hv')
      have HB3 := hide ((unhide HB2).trans (show Below w1.heap.size w2 (w2.drewN k3) from ⟨rfl, rfl, rfl, Nat.le_refl _, fun _ _ => rfl⟩))
      clear hs hv'
      go_wp2_with fail
      refine (same_ok v v' _ (unhide HS)).mono ?_
      rintro e w3 ⟨rfl, rfl⟩
      go_wp2_with fail
      refine ((unhide HU _ (unhide HB3)).2.1).mono ?_
      rintro e w4 ⟨rfl, rfl⟩
      go_wp2_with fail
      refine ((unhide HU _ (unhide HB3)).2.2).mono ?_
      rintro e w5 ⟨rfl, rfl⟩
      go_wp2
      go_ret
      exact ⟨rfl, (unhide HU _ (unhide HB3)).1⟩
end Go.Proofs.Ybulkdadw.Fl
