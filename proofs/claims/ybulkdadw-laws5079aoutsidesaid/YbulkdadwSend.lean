/-
  THE WALKS OF (Split).Send (7) AND zzs5079aunchanged (11).
-/
import Derived.Test.YbulkdadwFloats2
import Derived.Test.YbulkdadwBuild
namespace Go.Proofs.Ybulkdadw.Fl
open Go.ChangeShapes Go.WideShapes Go.ChangeAt Go.RowKit
set_option linter.unusedVariables false

/-- min/2 + max/2 -/
def midW (x y : Nat) : Option Nat := (Ieee.double.div x 4611686018427387904).bind fun p => (Ieee.double.div y 4611686018427387904).bind fun q => Ieee.double.add p q
def Mid (x y v : Nat) : Prop := midW x y = some v ∨ (midW x y = none ∧ isN v)
theorem midW_mul (x y : Nat) : midW x y = (Ieee.double.mul x 4602678819172646912).bind fun p => (Ieee.double.mul y 4602678819172646912).bind fun q => Ieee.double.add p q := by
  unfold midW; rw [half, half]

set_option maxHeartbeats 1000000 in
theorem send_low (l h n idx c1 c2 x y : Nat) (fr rd : Int) (w : World) (hlt : x < 18446744073709551616) (hi : idx < n) (hn : n ≤ 4096) (hl : l < w.heap.size) (hcl : w.cell? ⟨l, idx, none⟩ = some (.bool true)) :
    Calls Yba.prog 7 #[.agg #[.slice (some ⟨l, 0, none⟩) n c1, .slice (some ⟨h, 0, none⟩) n c2], .int .i64 fr, .int .i64 idx, .agg #[.int .i64 rd, .slice none 0 0, .float .f64 x, .float .f64 y]] w fun e w' =>
      ∃ v, e = .returned (.tuple #[.float .f64 v, .bool true]) ∧ Is belowW x v ∧ Below w.heap.size w w' := by
  have HV := fun w => view_below rd none 0 0 x y w hlt
  have HH : Hid (∀ w, _) := HV
  have hli : (idx : Int) < n := by omega
  clear HV hlt
  go_enter Yba.func7, Yba.ntmps7
  go_wp2_with (go_at_call 15; refine (HH.out _).mono ?_; rintro e w' ⟨v, rfl, hv, hb⟩)
  go_ret2
  refine ⟨v, rfl, hv, ?_⟩
  exact (((Below.refl _ _).alloc (Nat.le_refl _) _).alloc (by simp) _).trans (hb.mono (by simp; omega))
set_option maxHeartbeats 1000000 in
theorem send_high (l h n idx c1 c2 x y : Nat) (fr rd : Int) (w : World) (hlt : y < 18446744073709551616) (hi : idx < n) (hn : n ≤ 4096) (hl : l < w.heap.size) (hcl : w.cell? ⟨l, idx, none⟩ = some (.bool false)) (hh : h < w.heap.size) (hch : w.cell? ⟨h, idx, none⟩ = some (.bool true)) :
    Calls Yba.prog 7 #[.agg #[.slice (some ⟨l, 0, none⟩) n c1, .slice (some ⟨h, 0, none⟩) n c2], .int .i64 fr, .int .i64 idx, .agg #[.int .i64 rd, .slice none 0 0, .float .f64 x, .float .f64 y]] w fun e w' =>
      ∃ v, e = .returned (.tuple #[.float .f64 v, .bool true]) ∧ Is aboveW y v ∧ Below w.heap.size w w' := by
  have HV := fun w => view_above rd none 0 0 x y w hlt
  have HH : Hid (∀ w, _) := HV
  have hli : (idx : Int) < n := by omega
  clear HV hlt
  go_enter Yba.func7, Yba.ntmps7
  go_wp2_with (go_at_call 16; refine (HH.out _).mono ?_; rintro e w' ⟨v, rfl, hv, hb⟩)
  go_ret2
  refine ⟨v, rfl, hv, ?_⟩
  exact (((Below.refl _ _).alloc (Nat.le_refl _) _).alloc (by simp) _).trans (hb.mono (by simp; omega))

theorem op_any (op : BinOp) (hop : op = .add ∨ op = .sub ∨ op = .mul ∨ op = .quo) (x y : Nat) (w : World) : ∃ v k, (binOp op 24 (.float .f64 x) (.float .f64 y)).run Yba.prog w = .ok (.float .f64 v) (w.drewN k) ∧ (floatBits op .f64 x y = some v ∨ (floatBits op .f64 x y = none ∧ isN v)) := by
  cases h : floatBits op .f64 x y with
  | some r => exact ⟨r, 0, run_float_arith w op 24 .f64 x y r h, .inl rfl⟩
  | none => exact ⟨nv w x y, 1, run_nan op x y w hop h, .inr ⟨rfl, nv_nan w x y⟩⟩
theorem halves (op : BinOp) (hop : op = .add ∨ op = .sub ∨ op = .mul ∨ op = .quo) (c x y : Nat) (w : World) : ∃ p q v k1 k2 k3,
    (binOp op 24 (.float .f64 x) (.float .f64 c)).run Yba.prog w = .ok (.float .f64 p) (w.drewN k1) ∧
    (binOp op 24 (.float .f64 y) (.float .f64 c)).run Yba.prog (w.drewN k1) = .ok (.float .f64 q) (w.drewN k2) ∧
    (binOp .add 24 (.float .f64 p) (.float .f64 q)).run Yba.prog (w.drewN k2) = .ok (.float .f64 v) (w.drewN k3) ∧
    (((floatBits op .f64 x c).bind fun p => (floatBits op .f64 y c).bind fun q => Ieee.double.add p q) = some v ∨ (((floatBits op .f64 x c).bind fun p => (floatBits op .f64 y c).bind fun q => Ieee.double.add p q) = none ∧ isN v)) := by
  obtain ⟨p, k1, e1, h1⟩ := op_any op hop x c w
  obtain ⟨q, k2, e2, h2⟩ := op_any op hop y c (w.drewN k1)
  obtain ⟨v, k3, e3, h3⟩ := op_any .add (by simp) p q ((w.drewN k1).drewN k2)
  refine ⟨p, q, v, k1, k1 + k2, k1 + k2 + k3, e1, by rw [e2, World.drewN_drewN], by rw [World.drewN_drewN] at e3; rw [e3, World.drewN_drewN], ?_⟩
  have a3 : floatBits .add .f64 p q = Ieee.double.add p q := rfl
  rw [a3] at h3
  rcases h1 with h1 | ⟨h1, n1⟩
  · rw [h1, Option.bind_some]
    rcases h2 with h2 | ⟨h2, n2⟩
    · rw [h2, Option.bind_some]; exact h3
    · rw [h2, Option.bind_none]
      rw [add_nan_right n2] at h3
      rcases h3 with h3 | ⟨_, h3⟩
      · cases h3
      · exact .inr ⟨rfl, h3⟩
  · rw [h1, Option.bind_none]
    rw [add_nan_left n1] at h3
    rcases h3 with h3 | ⟨_, h3⟩
    · cases h3
    · exact .inr ⟨rfl, h3⟩

set_option maxHeartbeats 1000000 in
theorem send_mid (l h n idx c1 c2 x y : Nat) (fr rd : Int) (w : World) (hi : idx < n) (hn : n ≤ 4096) (hl : l < w.heap.size) (hcl : w.cell? ⟨l, idx, none⟩ = some (.bool false)) (hh : h < w.heap.size) (hch : w.cell? ⟨h, idx, none⟩ = some (.bool false)) :
    Calls Yba.prog 7 #[.agg #[.slice (some ⟨l, 0, none⟩) n c1, .slice (some ⟨h, 0, none⟩) n c2], .int .i64 fr, .int .i64 idx, .agg #[.int .i64 rd, .slice none 0 0, .float .f64 x, .float .f64 y]] w fun e w' =>
      ∃ v, e = .returned (.tuple #[.float .f64 v, .bool true]) ∧ Mid x y v ∧ Below w.heap.size w w' := by
  obtain ⟨p, q, v, k1, k2, k3, e1, e2, e3, hv⟩ := halves .quo (by simp) 4611686018427387904 x y ((w.alloc (.cells #[.slice (some ⟨l, 0, none⟩) n c1, .slice (some ⟨h, 0, none⟩) n c2] 29)).alloc (.cells #[.int .i64 rd, .slice none 0 0, .float .f64 x, .float .f64 y] 33))
  have hli : (idx : Int) < n := by omega
  have HV : Hid (Mid x y v) := hv
  clear hv
  go_enter Yba.func7, Yba.ntmps7
  go_wp2
  go_ret2
  refine ⟨v, rfl, HV.out, ?_⟩
  exact (((Below.refl _ _).alloc (Nat.le_refl _) _).alloc (by simp) _).trans ⟨rfl, rfl, rfl, Nat.le_refl _, fun _ _ => rfl⟩

/-- What Send gives. -/
def Sent (bl bh : Bool) (x y v : Nat) : Prop := if bl then Is belowW x v else if bh then Is aboveW y v else Mid x y v
theorem send_any (l h n idx c1 c2 x y : Nat) (fr rd : Int) (w : World) (hx : x < 18446744073709551616) (hy : y < 18446744073709551616) (hi : idx < n) (hn : n ≤ 4096) (hl : l < w.heap.size) (hh : h < w.heap.size) (bl bh : Bool) (hcl : w.cell? ⟨l, idx, none⟩ = some (.bool bl)) (hch : w.cell? ⟨h, idx, none⟩ = some (.bool bh)) :
    Calls Yba.prog 7 #[.agg #[.slice (some ⟨l, 0, none⟩) n c1, .slice (some ⟨h, 0, none⟩) n c2], .int .i64 fr, .int .i64 idx, .agg #[.int .i64 rd, .slice none 0 0, .float .f64 x, .float .f64 y]] w fun e w' =>
      ∃ v, e = .returned (.tuple #[.float .f64 v, .bool true]) ∧ Sent bl bh x y v ∧ Below w.heap.size w w' := by
  cases bl with
  | true => exact send_low l h n idx c1 c2 x y fr rd w hx hi hn hl hcl
  | false =>
    cases bh with
    | true => exact send_high l h n idx c1 c2 x y fr rd w hy hi hn hl hcl hh hch
    | false => exact send_mid l h n idx c1 c2 x y fr rd w hi hn hl hcl hh hch

/-! ### The marks are left as they were -/
set_option maxHeartbeats 1000000 in
theorem unchanged_any (a : Option Addr) (len cap l n c : Nat) (B : Nat → Bool) (w : World) (hlen : len ≤ 4096) (hn : n ≤ 4096) (r : Bld.Bools w a len B) (hc : ∀ j, j < n → w.cell? ⟨l, j, none⟩ = some (.bool (decide (j < len) && B j))) :
    Calls Yba.prog 11 #[.slice a len cap, .slice (some ⟨l, 0, none⟩) n c] w fun e w' => e = .returned (.bool true) ∧ w' = w := by
  have r' : (∃ b off, a = some ⟨b, off, none⟩ ∧ Hid (∀ k, k < len → w.cell? ⟨b, off + k, none⟩ = some (.bool (B k)))) ∨ Hid (len = 0) := by
    rcases r with h | ⟨b, off, h, hb, hc⟩
    · exact .inr h
    · exact .inl ⟨b, off, h, hc⟩
  have HC : Hid (∀ j, j < n → w.cell? ⟨l, j, none⟩ = some (.bool (decide (j < len) && B j))) := hc
  clear r hc
  rcases r' with ⟨f, t, rfl, H1⟩ | H1
  all_goals
    go_enter Yba.func11, Yba.ntmps11
    go_wp2
    go_loop [5] (fun i => ∃ k : Nat, k ≤ n ∧ i = .int .i64 k) (fun i => n - (intOf i).toNat)
    case atStart => exact ⟨0, Nat.zero_le _, rfl⟩
    case round =>
      obtain ⟨k, hk, rfl⟩ := hrel
      by_cases hlt : k < n
      · have g := HC.out k hlt
        by_cases hkl : k < len
        · first
            | (exfalso; have := H1.out; omega)
            | (rw [show (decide (k < len) && B k) = B k from by simp [hkl]] at g
               have g2 := H1.out k hkl
               generalize B k = z at g g2
               cases z
               all_goals
                 go_wp2
                 go_round
                 case rel => exact ⟨k + 1, by omega, by go_num⟩
                 case measure => simp [intOf]; omega)
        · rw [show (decide (k < len) && B k) = false from by simp [hkl]] at g
          go_wp2
          go_round
          case rel => exact ⟨k + 1, by omega, by go_num⟩
          case measure => simp [intOf]; omega
      · go_wp2
        go_ret
        exact ⟨rfl, rfl⟩
end Go.Proofs.Ybulkdadw.Fl
