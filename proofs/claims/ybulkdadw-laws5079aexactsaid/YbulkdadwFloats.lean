/-
  THE WALKS OF THE FLOAT FUNCTIONS OF THE SEAT Ybulkdadw: math.IsNaN (12), IsInf (13), Inf (21), NaN (22), Nextafter (20); View.below (15), View.above (16); zzs5079abelow (8), zzs5079aabove (9), zzs5079asame (10).
-/
import Derived.Test.YbulkdadwRows
import Derived.Test.YbulkdadwIeee
import Derived.WalkKit
import Derived.ProofKit
import Derived.WalkLawsBesides
import Derived.WalkSpells
import Derived.Below
import Derived.Laws.FloatArith
import Derived.RegionTactic
import Derived.Deep.QuietTactic
import Derived.BigQuiet
import Derived.Deep.RegionWith
namespace Go.Proofs.Ybulkdadw.Fl
open Go.ChangeShapes Go.WideShapes Go.ChangeAt Go.RowKit

theorem cf18 (n : Int) (w : World) : (callFunc 18 #[.int .u64 n]).run Yba.prog w = .ok (.value (.float .f64 n.toNat)) w := by
  rw [run_callFunc_extern Yba.func18 (by kernel_rfl) (by kernel_rfl) (by kernel_rfl) (e := Extern.MathFloatBits.float64frombits) (by kernel_rfl)]
  rfl
theorem cf17 (n : Nat) (w : World) : (callFunc 17 #[.float .f64 n]).run Yba.prog w = .ok (.value (.int .u64 n)) w := by
  rw [run_callFunc_extern Yba.func17 (by kernel_rfl) (by kernel_rfl) (by kernel_rfl) (e := Extern.MathFloatBits.float64bits) (by kernel_rfl)]
  rfl
theorem ng (x : Nat) (w : World) : (Op.unary .neg (.float .f64 x)).run Yba.prog w = .ok (.float .f64 (x ^^^ 9223372036854775808)) w := by
  show Result.ok (Value.float .f64 (Op.negFloat .f64 x)) w = _
  unfold Op.negFloat
  rw [show (2 : Nat) ^ (FloatKind.f64.format.exponentBits + FloatKind.f64.format.fractionBits) = 9223372036854775808 from by decide +kernel]

theorem isnan_any (x : Nat) (w : World) :
    Calls Yba.prog 12 #[.float .f64 x] w fun e w' => e = .returned (.bool (Ieee.double.order x x != some .eq)) ∧ w' = w := by
  go_enter Yba.func12, Yba.ntmps12
  go_wp2
  go_ret
  exact ⟨rfl, rfl⟩
theorem inf_neg (w : World) : Calls Yba.prog 21 #[.int .i64 (-1)] w fun e w' => e = .returned (.float .f64 18442240474082181120) ∧ w' = w := by
  have h18 := cf18 18442240474082181120
  rw [show (18442240474082181120 : Int).toNat = 18442240474082181120 from rfl] at h18
  go_enter Yba.func21, Yba.ntmps21
  go_wp2
  go_ret
  exact ⟨rfl, rfl⟩
theorem inf_pos (w : World) : Calls Yba.prog 21 #[.int .i64 1] w fun e w' => e = .returned (.float .f64 9218868437227405312) ∧ w' = w := by
  have h18 := cf18 9218868437227405312
  rw [show (9218868437227405312 : Int).toNat = 9218868437227405312 from rfl] at h18
  go_enter Yba.func21, Yba.ntmps21
  go_wp2
  go_ret
  exact ⟨rfl, rfl⟩
theorem nan_any (w : World) : Calls Yba.prog 22 #[] w fun e w' => e = .returned (.float .f64 9221120237041090561) ∧ w' = w := by
  have h18 := cf18 9221120237041090561
  rw [show (9221120237041090561 : Int).toNat = 9221120237041090561 from rfl] at h18
  go_enter Yba.func22, Yba.ntmps22
  go_wp2
  go_ret
  exact ⟨rfl, rfl⟩
theorem isinf_n (x : Nat) (w : World) :
    Calls Yba.prog 13 #[.float .f64 x, .int .i64 (-1)] w fun e w' => e = .returned (.bool (Ieee.double.order (x ^^^ 9223372036854775808) 9218868437227405311 == some .gt)) ∧ w' = w := by
  have hn := ng
  go_enter Yba.func13, Yba.ntmps13
  go_wp2
  go_ret
  exact ⟨rfl, rfl⟩
theorem isinf_p (x : Nat) (w : World) :
    Calls Yba.prog 13 #[.float .f64 x, .int .i64 1] w fun e w' => e = .returned (.bool (Ieee.double.order x 9218868437227405311 == some .gt)) ∧ w' = w := by
  go_enter Yba.func13, Yba.ntmps13
  go_wp2
  go_ret
  exact ⟨rfl, rfl⟩
/-- The order of two words, as the walk spells it. -/
theorem same_self (x : Nat) (w : World) :
    Calls Yba.prog 10 #[.float .f64 x, .float .f64 x] w fun e w' => e = .returned (.bool true) ∧ w' = w := by
  by_cases h : FloatKind.f64.format.order x x = some .eq
  · go_enter Yba.func10, Yba.ntmps10
    go_wp2
    go_ret
    exact ⟨rfl, rfl⟩
  · have h1 : (FloatKind.f64.format.order x x != some .eq) = true := by simpa using h
    clear h
    go_enter Yba.func10, Yba.ntmps10
    go_wp2
    go_ret
    exact ⟨rfl, rfl⟩
theorem same_nan (x y : Nat) (w : World) (hx : isN x) (hy : isN y) :
    Calls Yba.prog 10 #[.float .f64 x, .float .f64 y] w fun e w' => e = .returned (.bool true) ∧ w' = w := by
  have h1 : FloatKind.f64.format.order x x = none := order_nan_left hx x
  have h2 : FloatKind.f64.format.order y y = none := order_nan_left hy y
  clear hx hy
  go_enter Yba.func10, Yba.ntmps10
  go_wp2
  go_ret
  exact ⟨rfl, rfl⟩

/-- math.Nextafter of a NaN. -/
theorem next_nan (x y : Nat) (w : World) (hx : isN x) :
    Calls Yba.prog 20 #[.float .f64 x, .float .f64 y] w fun e w' => e = .returned (.float .f64 9221120237041090561) ∧ w' = w := by
  have h1 : FloatKind.f64.format.order x x = none := order_nan_left hx x
  have h18 := cf18 9221120237041090561
  rw [show (9221120237041090561 : Int).toNat = 9221120237041090561 from rfl] at h18
  clear hx
  go_enter Yba.func20, Yba.ntmps20
  go_wp2
  go_ret
  exact ⟨rfl, rfl⟩
/-- math.Nextafter(x, x). -/
theorem next_eq (x y : Nat) (w : World) (hx : ¬ isN x) (hy : ¬ isN y) (h : FloatKind.f64.format.order x y = some .eq) :
    Calls Yba.prog 20 #[.float .f64 x, .float .f64 y] w fun e w' => e = .returned (.float .f64 x) ∧ w' = w := by
  have h1 : FloatKind.f64.format.order x x = some .eq := order_self hx
  have h2 : FloatKind.f64.format.order y y = some .eq := order_self hy
  clear hx hy
  go_enter Yba.func20, Yba.ntmps20
  go_wp2
  go_ret
  exact ⟨rfl, rfl⟩
/-- math.Nextafter away from zero. -/
theorem next_out (x y : Nat) (w : World) (hx : ¬ isN x) (hy : ¬ isN y) (hlo : 0 < x) (hhi : x < 18446744073709551615) (o : Option Ordering) (h : FloatKind.f64.format.order x y = o) (ho : (o == some .eq) = false)
    (q : Option Ordering) (hz : FloatKind.f64.format.order x 0 = q) (hq : (q == some .eq) = false) (g : Option Ordering) (hg : FloatKind.f64.format.order y x = g) (hs : ((g == some .gt) == (q == some .gt)) = true) :
    Calls Yba.prog 20 #[.float .f64 x, .float .f64 y] w fun e w' => e = .returned (.float .f64 (x + 1)) ∧ w' = w := by
  have h1 : FloatKind.f64.format.order x x = some .eq := order_self hx
  have h2 : FloatKind.f64.format.order y y = some .eq := order_self hy
  have h17 := cf17
  have h18 := cf18
  clear hx hy
  go_enter Yba.func20, Yba.ntmps20
  go_wp2
  go_ret
  exact ⟨rfl, rfl⟩
/-- math.Nextafter towards zero. -/
theorem next_in (x y : Nat) (w : World) (hx : ¬ isN x) (hy : ¬ isN y) (hlo : 0 < x) (hhi : x < 18446744073709551615) (o : Option Ordering) (h : FloatKind.f64.format.order x y = o) (ho : (o == some .eq) = false)
    (q : Option Ordering) (hz : FloatKind.f64.format.order x 0 = q) (hq : (q == some .eq) = false) (g : Option Ordering) (hg : FloatKind.f64.format.order y x = g) (hs : ((g == some .gt) == (q == some .gt)) = false) :
    Calls Yba.prog 20 #[.float .f64 x, .float .f64 y] w fun e w' => e = .returned (.float .f64 (x - 1)) ∧ w' = w := by
  have h1 : FloatKind.f64.format.order x x = some .eq := order_self hx
  have h2 : FloatKind.f64.format.order y y = some .eq := order_self hy
  have h17 := cf17
  have h18 := cf18
  have hc : ((x : Int) - 1).toNat = x - 1 := by omega
  clear hx hy
  go_enter Yba.func20, Yba.ntmps20
  go_wp2
  go_ret
  exact ⟨rfl, rfl⟩

/-- The NaN that the tape gives. -/
def nv (w : World) (x y : Nat) : Nat := (Question.nanBits .f64 x y).cut (w.tape w.drawn (.nanBits .f64 x y))
theorem nv_nan (w : World) (x y : Nat) : isN (nv w x y) := isN_word _
theorem run_nan (op : BinOp) (x y : Nat) (w : World) (hop : op = .add ∨ op = .sub ∨ op = .mul ∨ op = .quo) (h : floatBits op .f64 x y = none) :
    (binOp op 24 (.float .f64 x) (.float .f64 y)).run Yba.prog w = .ok (.float .f64 (nv w x y)) w.drew := by
  unfold floatBits at h
  have hf : (Question.nanBits .f64 x y).forced = false := rfl
  rcases hop with rfl | rfl | rfl | rfl <;> simp only at h <;> simp [binOp, Op.floatArith, h, hf, nv]

/-! ### 'below' and 'above' -/
def one : Nat := 4607182418800017408
theorem next_down (x : Nat) (w : World) (hx : ¬ isN x) (hlt : x < 18446744073709551616) (r : Nat) (hr : Ieee.double.sub x 4607182418800017408 = some r) (hn : ¬ Ieee.double.order r x = some .lt) :
    Calls Yba.prog 20 #[.float .f64 x, .float .f64 18442240474082181120] w fun e w' => e = .returned (.float .f64 (belowW x)) ∧ w' = w := by
  have eb : belowW x = if x = 18442240474082181120 then x else if Ieee.double.order x 0 = some .gt then x - 1 else x + 1 := by
    unfold belowW; rw [hr]; simp only; rw [if_neg hn]
  rw [eb]
  by_cases h1 : x = 18442240474082181120
  · subst h1
    rw [if_pos rfl]
    exact next_eq _ _ w hx hx (order_self hx)
  rw [if_neg h1]
  have hne := eq_ninf x hlt h1
  have hgt := ninf_gt x
  rcases three x hlt hx with h0 | ⟨a, b, c⟩ | ⟨a, b, c⟩
  · obtain ⟨r', hr', hl⟩ := below_zero x h0
    rw [hr] at hr'; cases hr'; exact absurd hl hn
  · rw [if_pos c]
    exact next_in x _ w hx not_isN_ninf (by omega) (by omega) _ rfl hne _ c rfl _ rfl (by rw [show (FloatKind.f64.format.order 18442240474082181120 x == some Ordering.gt) = false from hgt]; rfl)
  · rw [c, if_neg (by decide)]
    exact next_out x _ w hx not_isN_ninf (by omega) (by omega) _ rfl hne _ c rfl _ rfl (by rw [show (FloatKind.f64.format.order 18442240474082181120 x == some Ordering.gt) = false from hgt]; rfl)
theorem next_up (x : Nat) (w : World) (hx : ¬ isN x) (hlt : x < 18446744073709551616) (r : Nat) (hr : Ieee.double.add x 4607182418800017408 = some r) (hn : ¬ Ieee.double.order r x = some .gt) :
    Calls Yba.prog 20 #[.float .f64 x, .float .f64 9218868437227405312] w fun e w' => e = .returned (.float .f64 (aboveW x)) ∧ w' = w := by
  have eb : aboveW x = if x = 9218868437227405312 then x else if Ieee.double.order x 0 = some .gt then x + 1 else x - 1 := by
    unfold aboveW; rw [hr]; simp only; rw [if_neg hn]
  rw [eb]
  by_cases h1 : x = 9218868437227405312
  · subst h1
    rw [if_pos rfl]
    exact next_eq _ _ w hx hx (order_self hx)
  rw [if_neg h1]
  have hne := eq_pinf x hlt h1
  have hgt := pinf_gt x hlt hx h1
  rcases three x hlt hx with h0 | ⟨a, b, c⟩ | ⟨a, b, c⟩
  · obtain ⟨r', hr', hl⟩ := above_zero x h0
    rw [hr] at hr'; cases hr'; exact absurd hl hn
  · rw [if_pos c]
    exact next_out x _ w hx not_isN_pinf (by omega) (by omega) _ rfl hne _ c rfl _ rfl (by rw [show (FloatKind.f64.format.order 9218868437227405312 x == some Ordering.gt) = true from hgt]; rfl)
  · rw [c, if_neg (by decide)]
    exact next_in x _ w hx not_isN_pinf (by omega) (by omega) _ rfl hne _ c rfl _ rfl (by rw [show (FloatKind.f64.format.order 9218868437227405312 x == some Ordering.gt) = true from hgt]; rfl)

/-- What a value 'v' is to the word x: both NaN, or just f x. -/
def Is (f : Nat → Nat) (x v : Nat) : Prop := (isN x ∧ isN v) ∨ (¬ isN x ∧ v = f x)

theorem below_box (w : World) (o : Obj) (n : Nat) : Below w.heap.size w ((w.alloc o).drewN n) := ((Below.refl _ _).alloc (Nat.le_refl _) _).trans ⟨rfl, rfl, rfl, Nat.le_refl _, fun _ _ => rfl⟩

set_option maxHeartbeats 1000000 in
theorem view_below (rd : Int) (a : Option Addr) (n c x y : Nat) (w : World) (hlt : x < 18446744073709551616) :
    Calls Yba.prog 15 #[.agg #[.int .i64 rd, .slice a n c, .float .f64 x, .float .f64 y]] w fun e w' => ∃ v, e = .returned (.float .f64 v) ∧ Is belowW x v ∧ Below w.heap.size w w' := by
  by_cases hx : isN x
  · have hsb := fun w => run_nan .sub x 4607182418800017408 w (by simp) (sub_nan_left hx _)
    have hnl : ∀ w, (FloatKind.f64.format.order (nv w x 4607182418800017408) x) = none := fun w => order_nan_right hx _
    have HX : Hid (∀ y w, _) := fun y w => next_nan x y w hx
    have HN : Hid (isN x) := hx
    clear hx
    go_enter Yba.func15, Yba.ntmps15
    go_wp2
    go_region_with (first | (go_at_call 21; refine (inf_neg _).mono ?_; rintro e w' ⟨rfl, rfl⟩) | (go_at_call 20; refine (HX.out _ _).mono ?_; rintro e w' ⟨rfl, rfl⟩))
    all_goals
      go_wp2
      go_ret
      exact ⟨_, rfl, .inl ⟨HN.out, isN_std⟩, (below_box _ _ 2)⟩
  · obtain ⟨r, hr⟩ := sub_one hx
    have hsb := fun w => run_float_arith (P := Yba.prog) w .sub 24 .f64 x 4607182418800017408 r hr
    by_cases hl : FloatKind.f64.format.order r x = some .lt
    · have HE : Hid (Is belowW x r) := .inr ⟨hx, by unfold belowW; rw [hr]; simp only; rw [if_pos (show Ieee.double.order r x = _ from hl)]⟩
      clear hx hr
      go_enter Yba.func15, Yba.ntmps15
      go_wp2
      go_ret
      exact ⟨_, rfl, HE.out, (Below.refl _ _).alloc (Nat.le_refl _) _⟩
    · have HX : Hid (∀ w, _) := fun w => next_down x w hx hlt r hr hl
      have HE : Hid (Is belowW x (belowW x)) := .inr ⟨hx, rfl⟩
      have hb : (FloatKind.f64.format.order r x == some .lt) = false := beq_eq_false_iff_ne.2 hl
      clear hx hr hl
      go_enter Yba.func15, Yba.ntmps15
      go_wp2
      go_quiet (first | (go_at_call 21; exact Calls.quiet_of_same (inf_neg _)) | (go_at_call 20; exact Calls.quiet_of_same (HX.out _)))
      go_wp2
      go_ret
      exact ⟨_, rfl, HE.out, below_box _ _ _⟩
set_option maxHeartbeats 1000000 in
theorem view_above (rd : Int) (a : Option Addr) (n c y x : Nat) (w : World) (hlt : x < 18446744073709551616) :
    Calls Yba.prog 16 #[.agg #[.int .i64 rd, .slice a n c, .float .f64 y, .float .f64 x]] w fun e w' => ∃ v, e = .returned (.float .f64 v) ∧ Is aboveW x v ∧ Below w.heap.size w w' := by
  by_cases hx : isN x
  · have hsb := fun w => run_nan .add x 4607182418800017408 w (by simp) (add_nan_left hx _)
    have hnl : ∀ w, (FloatKind.f64.format.order (nv w x 4607182418800017408) x) = none := fun w => order_nan_right hx _
    have HX : Hid (∀ y w, _) := fun y w => next_nan x y w hx
    have HN : Hid (isN x) := hx
    clear hx
    go_enter Yba.func16, Yba.ntmps16
    go_wp2
    go_region_with (first | (go_at_call 21; refine (inf_pos _).mono ?_; rintro e w' ⟨rfl, rfl⟩) | (go_at_call 20; refine (HX.out _ _).mono ?_; rintro e w' ⟨rfl, rfl⟩))
    all_goals
      go_wp2
      go_ret
      exact ⟨_, rfl, .inl ⟨HN.out, isN_std⟩, (below_box _ _ 2)⟩
  · obtain ⟨r, hr⟩ := add_one hx
    have hsb := fun w => run_float_arith (P := Yba.prog) w .add 24 .f64 x 4607182418800017408 r hr
    by_cases hl : FloatKind.f64.format.order r x = some .gt
    · have HE : Hid (Is aboveW x r) := .inr ⟨hx, by unfold aboveW; rw [hr]; simp only; rw [if_pos (show Ieee.double.order r x = _ from hl)]⟩
      clear hx hr
      go_enter Yba.func16, Yba.ntmps16
      go_wp2
      go_ret
      exact ⟨_, rfl, HE.out, (Below.refl _ _).alloc (Nat.le_refl _) _⟩
    · have HX : Hid (∀ w, _) := fun w => next_up x w hx hlt r hr hl
      have HE : Hid (Is aboveW x (aboveW x)) := .inr ⟨hx, rfl⟩
      have hb : (FloatKind.f64.format.order r x == some .gt) = false := beq_eq_false_iff_ne.2 hl
      clear hx hr hl
      go_enter Yba.func16, Yba.ntmps16
      go_wp2
      go_quiet (first | (go_at_call 21; exact Calls.quiet_of_same (inf_pos _)) | (go_at_call 20; exact Calls.quiet_of_same (HX.out _)))
      go_wp2
      go_ret
      exact ⟨_, rfl, HE.out, below_box _ _ _⟩

/-! ### The law's own 'below' and 'above' -/
end Go.Proofs.Ybulkdadw.Fl
