/-
  THE WALK OF 'engine.LawS5079AOutside' (4).
-/
import Derived.Test.YbulkdadwSend
namespace Go.Proofs.Ybulkdadw.Fl
open Go.ChangeShapes Go.WideShapes Go.ChangeAt Go.RowKit
set_option linter.unusedVariables false

theorem hide {p : Prop} (h : p) : Hid p := h
theorem unhide {p : Prop} (h : Hid p) : p := h

set_option maxHeartbeats 1000000 in
theorem outside_early (a1 a2 : Option Addr) (n1 c1 n2 c2 : Nat) (to : Int) (x y : Nat) (w : World) (h : 1024 < n1 ∨ 1024 < n2 ∨ isN x ∨ isN y) :
    Calls Yba.prog 4 #[.slice a1 n1 c1, .slice a2 n2 c2, .int .u64 to, .float .f64 x, .float .f64 y] w fun e w' => e = .returned (.bool true) ∧ Below w.heap.size w w' := by
  by_cases h1 : 1024 < n1
  · clear h
    go_enter Yba.func4, Yba.ntmps4
    go_wp2
    go_ret
    exact ⟨rfl, Below.refl _ _⟩
  by_cases h2 : 1024 < n2
  · clear h
    go_enter Yba.func4, Yba.ntmps4
    go_wp2
    go_ret
    exact ⟨rfl, Below.refl _ _⟩
  by_cases h3 : isN x
  · have e1 : FloatKind.f64.format.order x x = none := order_nan_left h3 x
    clear h h3
    go_enter Yba.func4, Yba.ntmps4
    go_wp2
    go_ret
    exact ⟨rfl, Below.refl _ _⟩
  have h4 : isN y := by rcases h with h | h | h | h <;> first | omega | exact absurd h h3 | exact h
  have e1 : FloatKind.f64.format.order x x = some .eq := order_self h3
  have e2 : FloatKind.f64.format.order y y = none := order_nan_left h4 y
  clear h h3 h4
  go_enter Yba.func4, Yba.ntmps4
  go_wp2
  go_ret
  exact ⟨rfl, Below.refl _ _⟩

set_option maxHeartbeats 2000000 in
theorem outside_in (a1 a2 : Option Addr) (n1 c1 n2 c2 : Nat) (B1 B2 : Nat → Bool) (to : Int) (x y : Nat) (w : World) (h1 : n1 ≤ 1024) (h2 : n2 ≤ 1024) (r1 : Bld.Bools w a1 n1 B1) (r2 : Bld.Bools w a2 n2 B2)
    (ht0 : 0 ≤ to) (ht1 : to ≤ 18446744073709551615) (hx : x < 18446744073709551616) (hy : y < 18446744073709551616) (nx : ¬ isN x) (ny : ¬ isN y) :
    Calls Yba.prog 4 #[.slice a1 n1 c1, .slice a2 n2 c2, .int .u64 to, .float .f64 x, .float .f64 y] w fun e w' => e = .returned (.bool true) ∧ Below w.heap.size w w' := by
  obtain ⟨n, hn⟩ : ∃ n, n = max n1 n2 + 1 := ⟨_, rfl⟩
  have HB := hide (Bld.build_any a1 a2 n1 c1 n2 c2 n B1 B2 w h1 h2 hn r1 r2)
  have e1 : FloatKind.f64.format.order x x = some .eq := order_self nx
  have e2 : FloatKind.f64.format.order y y = some .eq := order_self ny
  have hnb : n ≤ 4096 := by omega
  have hnp : 0 < n := by omega
  obtain ⟨i, hi⟩ : ∃ i : Nat, to % (n : Int) = i := ⟨(to % (n : Int)).toNat, by have := Int.emod_nonneg to (b := (n : Int)) (by omega); omega⟩
  have hin : i < n := by have := Int.emod_lt_of_pos to (b := (n : Int)) (by omega); omega
  clear r1 r2 hn
  have HX : Hid (¬ isN x) := nx
  have HY : Hid (¬ isN y) := ny
  clear nx ny
  go_enter Yba.func4, Yba.ntmps4
  go_wp2_with (first | (go_at_call 6; refine (unhide HB).mono ?_; rintro e w1 ⟨l, h, rfl, hb⟩) | (go_at_call 12; go_in))
  clear HB
  have hcl := hb.lo i hin
  have hch := hb.hi i hin
  obtain ⟨bl, hbl⟩ : ∃ b, b = (decide (i < n1) && B1 i) := ⟨_, rfl⟩
  obtain ⟨bh, hbh⟩ : ∃ b, b = (decide (i < n2) && B2 i) := ⟨_, rfl⟩
  rw [← hbl] at hcl
  rw [← hbh] at hch
  clear hbl hbh
  have HB1 := hide hb
  have hll := hb.ll
  have hlh := hb.lh
  clear hb
  refine (send_any l h n i n n x y i 1 w1 hx hy hin hnb hll hlh bl bh hcl hch).mono ?_
  rintro e w2 ⟨v, rfl, hs, hb2⟩
  have hcl2 : w2.cell? ⟨l, i, none⟩ = some (.bool bl) := (hb2.cell (by exact hll)).trans hcl
  have hch2 : w2.cell? ⟨h, i, none⟩ = some (.bool bh) := (hb2.cell (by exact hlh)).trans hch
  have HW := hide ((unhide HB1).below.trans (hb2.mono (unhide HB1).below.size))
  clear hb2 hcl hch HB1
  have hng := ng
  cases bl with
  | true =>
    have hv : v = belowW x := by
      rcases hs with ⟨h, _⟩ | ⟨_, h⟩
      · exact absurd h HX.out
      · exact h
    by_cases h1 : x = 18442240474082181120
    · have hvx : v = x := by rw [hv, h1, belowW_ninf]
      have hinf : (FloatKind.f64.format.order (x ^^^ 9223372036854775808) 9218868437227405311 == some .gt) = true := by rw [h1]; exact isinf_ninf
      subst hvx
      clear hs hv h1
      go_wp2
      go_ret
      exact ⟨rfl, unhide HW⟩
    · have hinf : (FloatKind.f64.format.order (x ^^^ 9223372036854775808) 9218868437227405311 == some .gt) = false := isinf_neg x hx h1
      have hlt : FloatKind.f64.format.order v x = some .lt := by rw [hv]; exact belowW_lt x hx HX.out h1
      clear hs hv h1
      go_wp2
      go_ret
      exact ⟨rfl, unhide HW⟩
  | false =>
    cases bh with
    | true =>
      have hv : v = aboveW y := by
        rcases hs with ⟨h, _⟩ | ⟨_, h⟩
        · exact absurd h HY.out
        · exact h
      by_cases h1 : y = 9218868437227405312
      · have hvx : v = y := by rw [hv, h1, aboveW_pinf]
        have hinf : (FloatKind.f64.format.order y 9218868437227405311 == some .gt) = true := by rw [h1]; exact gt_max_inf
        subst hvx
        clear hs hv h1
        go_wp2
        go_ret
        exact ⟨rfl, unhide HW⟩
      · have hinf : (FloatKind.f64.format.order y 9218868437227405311 == some .gt) = false := gt_max y hy h1
        have hlt : FloatKind.f64.format.order v y = some .gt := by rw [hv]; exact aboveW_gt y hy HY.out h1
        clear hs hv h1
        go_wp2
        go_ret
        exact ⟨rfl, unhide HW⟩
    | false =>
      clear hs
      go_wp2
      go_ret
      exact ⟨rfl, unhide HW⟩
end Go.Proofs.Ybulkdadw.Fl
