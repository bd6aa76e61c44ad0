/-
  THE PROOF OF 'Rows.LawS5078ATiesSaid': the frame after the guide's skeleton tool, the walk by hand.
-/
import Derived.Test.YbulkdadiRows
import Derived.Test.YbulkdadiTies
import Derived.WalkKit
import Derived.ProofKit
import Derived.OpenShut
import Derived.ShutString
import Derived.SliceStrings
import Derived.ChangeOld
import Derived.Below
import Derived.Deep.SlicePairs
import Derived.ChangeArms
namespace Go.Proofs.Ybulkdadi.lawS5078ATies
open Go.ChangeShapes Go.WideShapes Go.ChangeAt Go.RowKit
set_option linter.unusedVariables false

theorem own : ownKnob Yba.prog.godebug = none := by kernel_rfl
theorem laidOut : laidOutB Yba.prog = true := by kernel_rfl

/-- A slice of bytes that came in: no element; or its cells. -/
def Bytes (w : World) (a : Option Addr) (len : Nat) (U : Nat → Int) : Prop :=
  len = 0 ∨ ∃ b off, a = some ⟨b, off, none⟩ ∧ b < w.heap.size ∧ ∀ k, k < len → w.cell? ⟨b, off + k, none⟩ = some (.int .u8 (U k))
def Strs (w : World) (a : Option Addr) (len : Nat) (B : Nat → ByteArray) : Prop :=
  len = 0 ∨ ∃ b off, a = some ⟨b, off, none⟩ ∧ b < w.heap.size ∧ ∀ k, k < len → w.cell? ⟨b, off + k, none⟩ = some (.string (B k))
theorem walk (a0 a1 : Option Addr) (len0 cap0 len1 cap1 : Nat) (U : Nat → Int) (B : Nat → ByteArray) (w : World) (r0 : Bytes w a0 len0 U) (hU : ∀ k, 0 ≤ U k ∧ U k ≤ 255) (r1 : Strs w a1 len1 B) :
    Calls Yba.prog 4 #[.slice a0 len0 cap0, .slice a1 len1 cap1] w fun e w' => e = .returned (.bool true) ∧ Below w.heap.size w w' := by
  by_cases h : 1024 < len0 ∨ 1024 < len1
  · exact Lw.ties_out a0 a1 len0 cap0 len1 cap1 w h
  · rcases r0 with h0 | ⟨b0, o0, rfl, hb0, hc0⟩
    · exact Lw.ties_zero a0 a1 len0 cap0 len1 cap1 w (by omega) (by omega) (.inl h0)
    · rcases r1 with h1 | ⟨b1, o1, rfl, hb1, hc1⟩
      · exact Lw.ties_zero _ a1 len0 cap0 len1 cap1 w (by omega) (by omega) (.inr h1)
      · exact Lw.ties_pos b0 o0 len0 cap0 b1 o1 len1 cap1 U B w (by omega) (by omega) hb0 hb1 hc0 hU hc1

set_option maxRecDepth 100000 in
theorem lifted (os : Os) (started : os.Started) (H : Type) (enc : TypeId × Value → H) :
    ReturnsInHanded {} Yba.checked os 4 .any (Rows.lawS5078ATiesSpec.pre6 enc Yba.prog Yba.f4 Rows.lawS5078ATiesRow.domain false) (Rows.lawS5078ATiesSpec.post enc Yba.prog Yba.f4 false true false false) := by
  refine returnsInHanded_of_change (C := Yba.checked) own started (by kernel_rfl) Yba.func4
    (ChangeSpec.witness6 (enc := enc) (C := Yba.checked) false ⟨#[], #[.slice none 0 0, .slice none 0 0], []⟩ 8 (by kernel_rfl) (by kernel_rfl) (by kernel_rfl) (by kernel_rfl)) ?_
  intro W base args ds gs before hval0 hW hcnd _
  have hval : ∀ (j : Nat) t v, Yba.f4.params[j]? = some t → args[j]? = some v → Value.okWide Yba.prog W .any base t v := hval0
  have hW' := hW
  obtain ⟨p, q, hA0, hV, rfl, hfz, hnd⟩ := hW
  have hA : DataW.TrodAll enc Yba.prog W 0 (fun _ => true) true Yba.f4.params.toList args.toList ds p := hA0
  rw [Yba.params4] at hA hval
  obtain ⟨v0, vs0, d0, ds0, p0, q0, hargs, rfl, rfl, h0, r0⟩ := trodAll_cons hA
  obtain ⟨v1, vs1, d1, ds1, p1, q1, rfl, rfl, rfl, h1, r1⟩ := trodAll_cons r0
  obtain ⟨rfl, rfl, rfl⟩ := trodAll_nil r1
  obtain rfl : args = #[v0, v1] := by cases args; simp_all
  obtain ⟨rfl, rfl⟩ := trodVars_none hV
  obtain ⟨a0, len0, cap0, rfl⟩ := okWide_slice Yba.underlying29 (hval 0 29 v0 rfl rfl)
  obtain ⟨a1, len1, cap1, rfl⟩ := okWide_slice Yba.underlying24 (hval 1 24 v1 rfl rfl)
  have k0 := h0
  have k1 := h1
  have lt0 : ∀ x ∈ p0, x.block < W.heap.size := by obtain ⟨m, hm⟩ := k0; exact DataW.trod_lt m _ _ _ hm
  have lt1 : ∀ x ∈ p1, x.block < W.heap.size := by obtain ⟨m, hm⟩ := k1; exact DataW.trod_lt m _ _ _ hm
  obtain ⟨U, w0, hU⟩ : ∃ U, Bytes W a0 len0 U ∧ ∀ k, 0 ≤ U k ∧ U k ≤ 255 := by
    obtain ⟨fuel, hf⟩ := h0
    rcases open_ints Yba.underlying29 Yba.underlying5 (by kernel_rfl) hf with ⟨hcs, _⟩ | ⟨x, l, c, zs, hcs, _, hl, hm, hz, _, hcell, hwz⟩
    · simp [Value.cells] at hcs
      exact ⟨fun _ => 0, .inl hcs.2.1, fun _ => by dsimp only; decide⟩
    · simp [Value.cells] at hcs
      obtain ⟨rfl, rfl, rfl⟩ := hcs
      refine ⟨fun k => zs.getD k 0, ?_, fun j => by simpa [List.getD] using range_u8 hwz j⟩
      have hz' : zs.length = cap0 := by simpa using hz
      by_cases e0 : len0 = 0
      · exact .inl e0
      · obtain ⟨b, off, spot⟩ := x
        have hs : spot = none := by simpa [Addr.add] using World.cell?_spot (hcell 0 (by omega))
        subst hs
        have hc' : ∀ k, k < len0 → W.cell? ⟨b, off + k, none⟩ = some (.int .u8 (zs.getD k 0)) := fun k hk => by rw [← add_plain]; exact hcell k (by omega)
        exact .inr ⟨b, off, rfl, World.block_lt_of_cell? W ⟨b, off + 0, none⟩ (hc' 0 (by omega)), hc'⟩
  obtain ⟨B, w1⟩ : ∃ B, Strs W a1 len1 B := by
    obtain ⟨fuel, hf⟩ := h1
    rcases open_strings Yba.underlying24 Yba.underlying9 (by kernel_rfl) hf with ⟨hcs, _⟩ | ⟨x, l, c, ss, hcs, _, hl, hm, hz, _, hcell, hwz⟩
    · simp [Value.cells] at hcs
      exact ⟨fun _ => ⟨#[]⟩, .inl hcs.2.1⟩
    · simp [Value.cells] at hcs
      obtain ⟨rfl, rfl, rfl⟩ := hcs
      refine ⟨fun k => ss.getD k ByteArray.empty, ?_⟩
      have hz' : ss.length = cap1 := by simpa using hz
      by_cases e0 : len1 = 0
      · exact .inl e0
      · obtain ⟨b, off, spot⟩ := x
        have hs : spot = none := by simpa [Addr.add] using World.cell?_spot (hcell 0 (by omega))
        subst hs
        have hc' : ∀ k, k < len1 → W.cell? ⟨b, off + k, none⟩ = some (.string (ss.getD k ByteArray.empty)) := fun k hk => by rw [← add_plain]; exact hcell k (by omega)
        exact .inr ⟨b, off, rfl, World.block_lt_of_cell? W ⟨b, off + 0, none⟩ (hc' 0 (by omega)), hc'⟩
  clear hA0 hval0
  refine (walk a0 a1 len0 cap0 len1 cap1 U B W w0 hU w1).mono fun e W' ⟨he, bel⟩ => ?_
  subst he
  exact ⟨_, rfl, _, _, _, [], _, [], hW', trodAll_mk1 (shut_bool Yba.underlying4 _), (trodAll_cons_mk (Below.trod laidOut (by kernel_rfl) (of_decide_eq_true (by kernel_rfl)) k0 bel lt0) (trodAll_cons_mk (Below.trod laidOut (by kernel_rfl) (of_decide_eq_true (by kernel_rfl)) k1 bel lt1) trodAll_mk0)), rfl, bel.frame _, fun h => by cases h⟩

theorem over : Rows.lawS5078ATiesRow.holds Yba.pinned (OpenSpec.ofChange Rows.lawS5078ATiesSpec) :=
  OpenClaim.holds_of_wide 4 Yba.f4 rfl rfl rfl rfl rfl rfl rfl ⟨rfl, rfl, rfl, rfl, rfl⟩ rfl rfl rfl rfl rfl (by kernel_rfl) Yba.func4 (by kernel_rfl)
    (of_decide_eq_true (by kernel_rfl)) (by unfold Func.isWrapper; first | (rw [if_pos (by decide +kernel)]; kernel_rfl) | (rw [if_neg (by decide +kernel)]; exact ⟨rfl, rfl⟩))
    (fun os started H enc _ => lifted os started H enc)

/-- THE STATEMENT -/
theorem proved : Rows.LawS5078ATiesSaid := over
#print axioms proved
end Go.Proofs.Ybulkdadi.lawS5078ATies
