/-
  THE PROOF OF 'Rows.LawS5079AExactSaid': the frame after the guide's skeleton tool, the walk by hand.
-/
import Derived.Test.YbulkdadwRows
import Derived.Test.YbulkdadwExact
import Derived.WalkKit
import Derived.ProofKit
import Derived.OpenShut
import Derived.ShutString
import Derived.ChangeOld
import Derived.Below
import Derived.Laws.Cover2
import Derived.Deep.Grids
namespace Go.Proofs.Ybulkdadw.lawS5079AExact
open Go.ChangeShapes Go.WideShapes Go.ChangeAt Go.RowKit
set_option linter.unusedVariables false

theorem own : ownKnob Yba.prog.godebug = none := by kernel_rfl
theorem laidOut : laidOutB Yba.prog = true := by kernel_rfl
theorem cells4 : Yba.prog.cellsOf 4 = 1 := by kernel_rfl

/-- A slice of bools that came in, as the walk is told of it. -/
theorem bools_of {H : Type} {enc : TypeId × Value → H} {W : World} {fuel : Nat} {a : Option Addr} {len cap : Nat} {x : DataW H × List MemPlace} (h : DataW.trod enc Yba.prog W 0 (fun _ => true) true fuel 22 (Value.cells (.slice a len cap)).toList = some x) :
    ∃ B, Bld.Bools W a len B := by
  rcases Deep.open_bools Yba.underlying22 Yba.underlying4 cells4 h with ⟨hcs, _⟩ | ⟨x, l, c, B, hcs, _, hl, _, _, hcell⟩
  · simp [Value.cells] at hcs
    exact ⟨fun _ => false, .inl hcs.2.1⟩
  · simp [Value.cells] at hcs
    obtain ⟨rfl, rfl, rfl⟩ := hcs
    refine ⟨B, ?_⟩
    by_cases h0 : len = 0
    · exact .inl h0
    · obtain ⟨b, off, spot⟩ := x
      have hs : spot = none := by simpa [Addr.add] using World.cell?_spot (hcell 0 (by omega))
      subst hs
      have hc' : ∀ k, k < len → W.cell? ⟨b, off + k, none⟩ = some (.bool (B k)) := fun k hk => by rw [← add_plain]; exact hcell k (by omega)
      exact .inr ⟨b, off, rfl, World.block_lt_of_cell? W ⟨b, off + 0, none⟩ (hc' 0 (by omega)), hc'⟩
theorem flt {b : Nat} (h : (Lit.float .f64 b).wf = true) : b < 18446744073709551616 := by simpa [Lit.wf] using h

theorem walk (a0 a1 : Option Addr) (len0 cap0 len1 cap1 : Nat) (B0 B1 : Nat → Bool) (fr to rd : Int) (x y : Nat) (w : World) (r0 : Bld.Bools w a0 len0 B0) (r1 : Bld.Bools w a1 len1 B1) (wt : (Lit.int .u64 to).wf = true) (wx : (Lit.float .f64 x).wf = true) (wy : (Lit.float .f64 y).wf = true) :
    Calls Yba.prog 3 #[.slice a0 len0 cap0, .slice a1 len1 cap1, .int .i64 fr, .int .u64 to, .int .i64 rd, .float .f64 x, .float .f64 y] w fun e w' => e = .returned (.bool true) ∧ Below w.heap.size w w' := by
  by_cases h : 1024 < len0 ∨ 1024 < len1
  · exact Fl.exact_early a0 a1 len0 cap0 len1 cap1 fr to rd x y w h
  · exact Fl.exact_in a0 a1 len0 cap0 len1 cap1 B0 B1 fr to rd x y w (by omega) (by omega) r0 r1 (bounds_u64 wt).1 (bounds_u64 wt).2 (flt wx) (flt wy)

set_option maxRecDepth 100000 in
theorem lifted (os : Os) (started : os.Started) (H : Type) (enc : TypeId × Value → H) :
    ReturnsInHanded {} Yba.checked os 3 .any (Rows.lawS5079AExactSpec.pre6 enc Yba.prog Yba.f3 Rows.lawS5079AExactRow.domain false) (Rows.lawS5079AExactSpec.post enc Yba.prog Yba.f3 false true false false) := by
  refine returnsInHanded_of_change (C := Yba.checked) own started (by kernel_rfl) Yba.func3
    (ChangeSpec.witness6 (enc := enc) (C := Yba.checked) false ⟨#[], #[.slice none 0 0, .slice none 0 0, .int .i64 0, .int .u64 0, .int .i64 0, .float .f64 0, .float .f64 0], []⟩ 8 (by kernel_rfl) (by kernel_rfl) (by kernel_rfl) (by kernel_rfl)) ?_
  intro W base args ds gs before hval0 hW hcnd _
  have hval : ∀ (j : Nat) t v, Yba.f3.params[j]? = some t → args[j]? = some v → Value.okWide Yba.prog W .any base t v := hval0
  have hW' := hW
  obtain ⟨p, q, hA0, hV, rfl, hfz, hnd⟩ := hW
  have hA : DataW.TrodAll enc Yba.prog W 0 (fun _ => true) true Yba.f3.params.toList args.toList ds p := hA0
  rw [Yba.params3] at hA hval
  obtain ⟨v0, vs0, d0, ds0, p0, q0, hargs, rfl, rfl, h0, r0⟩ := trodAll_cons hA
  obtain ⟨v1, vs1, d1, ds1, p1, q1, rfl, rfl, rfl, h1, r1⟩ := trodAll_cons r0
  obtain ⟨v2, vs2, d2, ds2, p2, q2, rfl, rfl, rfl, h2, r2⟩ := trodAll_cons r1
  obtain ⟨v3, vs3, d3, ds3, p3, q3, rfl, rfl, rfl, h3, r3⟩ := trodAll_cons r2
  obtain ⟨v4, vs4, d4, ds4, p4, q4, rfl, rfl, rfl, h4, r4⟩ := trodAll_cons r3
  obtain ⟨v5, vs5, d5, ds5, p5, q5, rfl, rfl, rfl, h5, r5⟩ := trodAll_cons r4
  obtain ⟨v6, vs6, d6, ds6, p6, q6, rfl, rfl, rfl, h6, r6⟩ := trodAll_cons r5
  obtain ⟨rfl, rfl, rfl⟩ := trodAll_nil r6
  obtain rfl : args = #[v0, v1, v2, v3, v4, v5, v6] := by cases args; simp_all
  obtain ⟨rfl, rfl⟩ := trodVars_none hV
  obtain ⟨a0, len0, cap0, rfl⟩ := okWide_slice Yba.underlying22 (hval 0 22 v0 rfl rfl)
  have k0 := h0
  have lt0 : ∀ x ∈ p0, x.block < W.heap.size := by obtain ⟨m, hm⟩ := k0; exact DataW.trod_lt m _ _ _ hm
  obtain ⟨B0, w0⟩ : ∃ B, Bld.Bools W a0 len0 B := by
    obtain ⟨fuel, hf⟩ := h0
    exact bools_of hf
  obtain ⟨a1, len1, cap1, rfl⟩ := okWide_slice Yba.underlying22 (hval 1 22 v1 rfl rfl)
  have k1 := h1
  have lt1 : ∀ x ∈ p1, x.block < W.heap.size := by obtain ⟨m, hm⟩ := k1; exact DataW.trod_lt m _ _ _ hm
  obtain ⟨B1, w1⟩ : ∃ B, Bld.Bools W a1 len1 B := by
    obtain ⟨fuel, hf⟩ := h1
    exact bools_of hf
  obtain ⟨a2, rfl, rfl, rfl, w2⟩ := open_int Yba.underlying3 (hval 2 3 v2 rfl rfl) h2
  obtain ⟨a3, rfl, rfl, rfl, w3⟩ := open_int Yba.underlying23 (hval 3 23 v3 rfl rfl) h3
  obtain ⟨a4, rfl, rfl, rfl, w4⟩ := open_int Yba.underlying3 (hval 4 3 v4 rfl rfl) h4
  obtain ⟨a5, rfl, rfl, rfl, w5⟩ := open_float Yba.underlying24 (hval 5 24 v5 rfl rfl) h5
  obtain ⟨a6, rfl, rfl, rfl, w6⟩ := open_float Yba.underlying24 (hval 6 24 v6 rfl rfl) h6
  clear hA0 hval0
  refine (walk a0 a1 len0 cap0 len1 cap1 B0 B1 a2 a3 a4 a5 a6 W w0 w1 w3 w5 w6).mono fun e W' ⟨he, bel⟩ => ?_
  subst he
  exact ⟨_, rfl, _, _, _, [], _, [], hW', trodAll_mk1 (shut_bool Yba.underlying4 _), (trodAll_cons_mk (Below.trod laidOut (by kernel_rfl) (of_decide_eq_true (by kernel_rfl)) k0 bel lt0) (trodAll_cons_mk (Below.trod laidOut (by kernel_rfl) (of_decide_eq_true (by kernel_rfl)) k1 bel lt1) (trodAll_cons_mk (shut_int Yba.underlying3 w2) (trodAll_cons_mk (shut_int Yba.underlying23 w3) (trodAll_cons_mk (shut_int Yba.underlying3 w4) (trodAll_cons_mk (shut_float Yba.underlying24 w5) (trodAll_cons_mk (shut_float Yba.underlying24 w6) trodAll_mk0))))))), rfl, bel.frame _, fun h => by cases h⟩

theorem over : Rows.lawS5079AExactRow.holds Yba.pinned (OpenSpec.ofChange Rows.lawS5079AExactSpec) :=
  OpenClaim.holds_of_wide 3 Yba.f3 rfl rfl rfl rfl rfl rfl rfl ⟨rfl, rfl, rfl, rfl, rfl⟩ rfl rfl rfl rfl rfl (by kernel_rfl) Yba.func3 (by kernel_rfl)
    (of_decide_eq_true (by kernel_rfl)) (by unfold Func.isWrapper; first | (rw [if_pos (by decide +kernel)]; kernel_rfl) | (rw [if_neg (by decide +kernel)]; exact ⟨rfl, rfl⟩))
    (fun os started H enc _ => lifted os started H enc)

/-- THE STATEMENT -/
theorem proved : Rows.LawS5079AExactSaid := over
#print axioms proved
end Go.Proofs.Ybulkdadw.lawS5079AExact
