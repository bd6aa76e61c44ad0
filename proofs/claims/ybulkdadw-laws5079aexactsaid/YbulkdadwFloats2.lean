/-
  THE WALKS OF zzs5079abelow (8) AND zzs5079aabove (9).
-/
import Derived.Test.YbulkdadwFloats
namespace Go.Proofs.Ybulkdadw.Fl
open Go.ChangeShapes Go.WideShapes Go.ChangeAt Go.RowKit

set_option maxHeartbeats 1000000 in
theorem zz_below (x : Nat) (w : World) (hlt : x < 18446744073709551616) :
    Calls Yba.prog 8 #[.float .f64 x] w fun e w' => ∃ v, e = .returned (.float .f64 v) ∧ Is belowW x v ∧ w' = w := by
  have h17 := cf17
  have h18 := cf18
  by_cases hx : isN x
  · have h1 : FloatKind.f64.format.order x x = none := order_nan_left hx x
    have HN : Hid (isN x) := hx
    clear hx
    go_enter Yba.func8, Yba.ntmps8
    go_wp2
    go_ret
    exact ⟨_, rfl, .inl ⟨HN.out, HN.out⟩, rfl⟩
  · have h1 : FloatKind.f64.format.order x x = some .eq := order_self hx
    obtain ⟨r, hr⟩ := sub_one hx
    have hsb := fun w => run_float_arith (P := Yba.prog) w .sub 24 .f64 x 4607182418800017408 r hr
    by_cases hl : FloatKind.f64.format.order r x = some .lt
    · have HE : Hid (Is belowW x r) := .inr ⟨hx, by unfold belowW; rw [hr]; simp only; rw [if_pos (show Ieee.double.order r x = _ from hl)]⟩
      clear hx hr
      go_enter Yba.func8, Yba.ntmps8
      go_wp2
      go_ret
      exact ⟨_, rfl, HE.out, rfl⟩
    · have eb : belowW x = if x = 18442240474082181120 then x else if Ieee.double.order x 0 = some .gt then x - 1 else x + 1 := by
        unfold belowW; rw [hr]; simp only; rw [if_neg (show ¬ Ieee.double.order r x = _ from hl)]
      have hb : (FloatKind.f64.format.order r x == some .lt) = false := beq_eq_false_iff_ne.2 hl
      by_cases h2 : x = 18442240474082181120
      · have HE : Hid (Is belowW x x) := .inr ⟨hx, by rw [eb, if_pos h2]⟩
        have HI := fun w => isinf_n x w
        rw [show (Ieee.double.order (x ^^^ 9223372036854775808) 9218868437227405311 == some Ordering.gt) = true from by rw [h2]; exact isinf_ninf] at HI
        have HH : Hid (∀ w, _) := HI
        clear hx hr hl eb h2 HI
        go_enter Yba.func8, Yba.ntmps8
        go_wp2_with (first | (go_at_call 13; refine (HH.out _).mono ?_; rintro e w' ⟨rfl, rfl⟩) | (go_at_call 12; refine (isnan_any _ _).mono ?_; rintro e w' ⟨rfl, rfl⟩; rw [show Ieee.double.order x x = some .eq from h1]))
        go_ret
        exact ⟨_, rfl, HE.out, rfl⟩
      · have HI := fun w => isinf_n x w
        rw [isinf_neg x hlt h2] at HI
        have HH : Hid (∀ w, _) := HI
        rw [if_neg h2] at eb
        clear HI h2
        rcases three x hlt hx with h0 | ⟨a, b, c⟩ | ⟨a, b, c⟩
        · obtain ⟨r', hr', hl'⟩ := below_zero x h0
          rw [hr] at hr'; cases hr'; exact absurd hl' hl
        · have HE : Hid (Is belowW x (x - 1)) := .inr ⟨hx, by rw [eb, if_pos c]⟩
          have hz : FloatKind.f64.format.order x 0 = some .gt := c
          have hc : ((x : Int) - 1).toNat = x - 1 := by omega
          clear hx hr hl eb c
          go_enter Yba.func8, Yba.ntmps8
          go_wp2_with (first | (go_at_call 13; refine (HH.out _).mono ?_; rintro e w' ⟨rfl, rfl⟩) | (go_at_call 12; refine (isnan_any _ _).mono ?_; rintro e w' ⟨rfl, rfl⟩; rw [show Ieee.double.order x x = some .eq from h1]))
          go_ret
          exact ⟨_, rfl, HE.out, rfl⟩
        · have HE : Hid (Is belowW x (x + 1)) := .inr ⟨hx, by rw [eb, c, if_neg (by decide)]⟩
          have hz : FloatKind.f64.format.order x 0 = some .lt := c
          clear hx hr hl eb c
          go_enter Yba.func8, Yba.ntmps8
          go_wp2_with (first | (go_at_call 13; refine (HH.out _).mono ?_; rintro e w' ⟨rfl, rfl⟩) | (go_at_call 12; refine (isnan_any _ _).mono ?_; rintro e w' ⟨rfl, rfl⟩; rw [show Ieee.double.order x x = some .eq from h1]))
          go_ret
          exact ⟨_, rfl, HE.out, rfl⟩
set_option maxHeartbeats 1000000 in
theorem zz_above (x : Nat) (w : World) (hlt : x < 18446744073709551616) :
    Calls Yba.prog 9 #[.float .f64 x] w fun e w' => ∃ v, e = .returned (.float .f64 v) ∧ Is aboveW x v ∧ w' = w := by
  have h17 := cf17
  have h18 := cf18
  by_cases hx : isN x
  · have h1 : FloatKind.f64.format.order x x = none := order_nan_left hx x
    have HN : Hid (isN x) := hx
    clear hx
    go_enter Yba.func9, Yba.ntmps9
    go_wp2
    go_ret
    exact ⟨_, rfl, .inl ⟨HN.out, HN.out⟩, rfl⟩
  · have h1 : FloatKind.f64.format.order x x = some .eq := order_self hx
    obtain ⟨r, hr⟩ := add_one hx
    have hsb := fun w => run_float_arith (P := Yba.prog) w .add 24 .f64 x 4607182418800017408 r hr
    by_cases hl : FloatKind.f64.format.order r x = some .gt
    · have HE : Hid (Is aboveW x r) := .inr ⟨hx, by unfold aboveW; rw [hr]; simp only; rw [if_pos (show Ieee.double.order r x = _ from hl)]⟩
      clear hx hr
      go_enter Yba.func9, Yba.ntmps9
      go_wp2
      go_ret
      exact ⟨_, rfl, HE.out, rfl⟩
    · have eb : aboveW x = if x = 9218868437227405312 then x else if Ieee.double.order x 0 = some .gt then x + 1 else x - 1 := by
        unfold aboveW; rw [hr]; simp only; rw [if_neg (show ¬ Ieee.double.order r x = _ from hl)]
      have hb : (FloatKind.f64.format.order r x == some .gt) = false := beq_eq_false_iff_ne.2 hl
      by_cases h2 : x = 9218868437227405312
      · have HE : Hid (Is aboveW x x) := .inr ⟨hx, by rw [eb, if_pos h2]⟩
        have HI := fun w => isinf_p x w
        rw [show (Ieee.double.order x 9218868437227405311 == some Ordering.gt) = true from by rw [h2]; exact gt_max_inf] at HI
        have HH : Hid (∀ w, _) := HI
        clear hx hr hl eb h2 HI
        go_enter Yba.func9, Yba.ntmps9
        go_wp2_with (first | (go_at_call 13; refine (HH.out _).mono ?_; rintro e w' ⟨rfl, rfl⟩) | (go_at_call 12; refine (isnan_any _ _).mono ?_; rintro e w' ⟨rfl, rfl⟩; rw [show Ieee.double.order x x = some .eq from h1]))
        go_ret
        exact ⟨_, rfl, HE.out, rfl⟩
      · have HI := fun w => isinf_p x w
        rw [gt_max x hlt h2] at HI
        have HH : Hid (∀ w, _) := HI
        rw [if_neg h2] at eb
        clear HI h2
        rcases three x hlt hx with h0 | ⟨a, b, c⟩ | ⟨a, b, c⟩
        · obtain ⟨r', hr', hl'⟩ := above_zero x h0
          rw [hr] at hr'; cases hr'; exact absurd hl' hl
        · have HE : Hid (Is aboveW x (x + 1)) := .inr ⟨hx, by rw [eb, if_pos c]⟩
          have hz : FloatKind.f64.format.order x 0 = some .gt := c
          clear hx hr hl eb c
          go_enter Yba.func9, Yba.ntmps9
          go_wp2_with (first | (go_at_call 13; refine (HH.out _).mono ?_; rintro e w' ⟨rfl, rfl⟩) | (go_at_call 12; refine (isnan_any _ _).mono ?_; rintro e w' ⟨rfl, rfl⟩; rw [show Ieee.double.order x x = some .eq from h1]))
          go_ret
          exact ⟨_, rfl, HE.out, rfl⟩
        · have HE : Hid (Is aboveW x (x - 1)) := .inr ⟨hx, by rw [eb, c, if_neg (by decide)]⟩
          have hz : FloatKind.f64.format.order x 0 = some .lt := c
          have hc : ((x : Int) - 1).toNat = x - 1 := by omega
          clear hx hr hl eb c
          go_enter Yba.func9, Yba.ntmps9
          go_wp2_with (first | (go_at_call 13; refine (HH.out _).mono ?_; rintro e w' ⟨rfl, rfl⟩) | (go_at_call 12; refine (isnan_any _ _).mono ?_; rintro e w' ⟨rfl, rfl⟩; rw [show Ieee.double.order x x = some .eq from h1]))
          go_ret
          exact ⟨_, rfl, HE.out, rfl⟩
end Go.Proofs.Ybulkdadw.Fl
