/-
  THE PROOF OF 'Rows.LawS5078ASortedSaid': the frame after the guide's skeleton tool, the walk by hand.
-/
import Derived.Test.YbulkdadiRows
import Derived.Test.YbulkdadiSorted
import Derived.WalkKit
import Derived.ProofKit
import Derived.OpenShut
import Derived.ShutString
import Derived.SliceStrings
import Derived.ChangeOld
import Derived.Below
import Derived.Deep.SlicePairs
import Derived.ChangeArms
namespace Go.Proofs.Ybulkdadi.lawS5078ASorted
open Go.ChangeShapes Go.WideShapes Go.ChangeAt Go.RowKit
set_option linter.unusedVariables false

theorem own : ownKnob Yba.prog.godebug = none := by kernel_rfl
theorem laidOut : laidOutB Yba.prog = true := by kernel_rfl

/-- A slice of items that came in: no element; or its cells. -/
def Itms (w : World) (a : Option Addr) (len : Nat) (T : Nat → Int) (B : Nat → ByteArray) : Prop :=
  len = 0 ∨ ∃ b off, a = some ⟨b, off, none⟩ ∧ b < w.heap.size ∧ ∀ k, k < len → w.cell? ⟨b, off + k * 2, none⟩ = some (.int .i64 (T k)) ∧ w.cell? ⟨b, off + k * 2 + 1, none⟩ = some (.string (B k))
theorem walk (a : Option Addr) (len cap : Nat) (T : Nat → Int) (B : Nat → ByteArray) (w : World) (r : Itms w a len T B) (hT : ∀ k, k < len → -9223372036854775808 ≤ T k ∧ T k ≤ 9223372036854775807) :
    Calls Yba.prog 3 #[.slice a len cap] w fun e w' => e = .returned (.bool true) ∧ Below w.heap.size w w' := by
  by_cases h : 1024 < len
  · exact Lw.sorted_out a len cap w h
  · rcases r with h0 | ⟨b0, o0, rfl, hb0, hc0⟩
    · subst h0; exact Lw.sorted_zero a cap w
    · exact Lw.sorted_pos b0 o0 len cap T B w (by omega) hb0 hc0 hT

set_option maxRecDepth 100000 in
theorem lifted (os : Os) (started : os.Started) (H : Type) (enc : TypeId × Value → H) :
    ReturnsInHanded {} Yba.checked os 3 .any (Rows.lawS5078ASortedSpec.pre6 enc Yba.prog Yba.f3 Rows.lawS5078ASortedRow.domain false) (Rows.lawS5078ASortedSpec.post enc Yba.prog Yba.f3 false true false false) := by
  refine returnsInHanded_of_change (C := Yba.checked) own started (by kernel_rfl) Yba.func3
    (ChangeSpec.witness6 (enc := enc) (C := Yba.checked) false ⟨#[], #[.slice none 0 0], []⟩ 8 (by kernel_rfl) (by kernel_rfl) (by kernel_rfl) (by kernel_rfl)) ?_
  intro W base args ds gs before hval0 hW hcnd _
  have hval : ∀ (j : Nat) t v, Yba.f3.params[j]? = some t → args[j]? = some v → Value.okWide Yba.prog W .any base t v := hval0
  have hW' := hW
  obtain ⟨p, q, hA0, hV, rfl, hfz, hnd⟩ := hW
  have hA : DataW.TrodAll enc Yba.prog W 0 (fun _ => true) true Yba.f3.params.toList args.toList ds p := hA0
  rw [Yba.params3] at hA hval
  obtain ⟨v0, vs0, d0, ds0, p0, q0, hargs, rfl, rfl, h0, r0⟩ := trodAll_cons hA
  obtain ⟨rfl, rfl, rfl⟩ := trodAll_nil r0
  obtain rfl : args = #[v0] := by cases args; simp_all
  obtain ⟨rfl, rfl⟩ := trodVars_none hV
  obtain ⟨a0, len0, cap0, rfl⟩ := okWide_slice Yba.underlying22 (hval 0 22 v0 rfl rfl)
  have k0 := h0
  have lt0 : ∀ x ∈ p0, x.block < W.heap.size := by obtain ⟨m, hm⟩ := k0; exact DataW.trod_lt m _ _ _ hm
  obtain ⟨T, B, w0, hT⟩ : ∃ T B, Itms W a0 len0 T B ∧ ∀ k, k < len0 → -9223372036854775808 ≤ T k ∧ T k ≤ 9223372036854775807 := by
    obtain ⟨fuel, hf⟩ := h0
    rcases Deep.open_slice_pairs Yba.underlying22 Yba.underlying26 (by kernel_rfl) rfl rfl (by kernel_rfl) (by kernel_rfl) hf with ⟨hcs, _⟩ | ⟨x, l, c, m, fu, V0, V1, D0, D1, P0, P1, hcs, _, hl, hm, hmm, _, hcell⟩
    · simp [Value.cells] at hcs
      exact ⟨fun _ => 0, fun _ => ⟨#[]⟩, .inl hcs.2.1, fun _ _ => by dsimp only; decide⟩
    · simp [Value.cells] at hcs
      obtain ⟨rfl, rfl, rfl⟩ := hcs
      have hm' : m = cap0 := by simpa using hmm
      have hi : ∀ i, ∃ z : Int, i < m → V0 i = .int .i64 z ∧ (Lit.int .i64 z).wf = true := fun i => by
        by_cases h : i < m
        · obtain ⟨z, hz, _, hw⟩ := DataW.trod_int Yba.underlying2 (hcell i h).2.2.1
          exact ⟨z, fun _ => ⟨by simpa using hz, hw⟩⟩
        · exact ⟨0, fun h' => absurd h' h⟩
      have hs : ∀ i, ∃ s : ByteArray, i < m → V1 i = .string s := fun i => by
        by_cases h : i < m
        · obtain ⟨s, hs, _, _⟩ := DataW.trod_string Yba.underlying9 (hcell i h).2.2.2
          exact ⟨s, fun _ => by simpa using hs⟩
        · exact ⟨⟨#[]⟩, fun h' => absurd h' h⟩
      obtain ⟨T, hT⟩ := Classical.axiomOfChoice hi
      obtain ⟨B, hB⟩ := Classical.axiomOfChoice hs
      refine ⟨T, B, ?_, fun k hk => bounds_i64 (hT k (by omega)).2⟩
      by_cases e0 : len0 = 0
      · exact .inl e0
      · obtain ⟨b, off, spot⟩ := x
        have hsp : spot = none := by simpa [Addr.add] using World.cell?_spot (hcell 0 (by omega)).1
        subst hsp
        have hc' : ∀ k, k < len0 → W.cell? ⟨b, off + k * 2, none⟩ = some (.int .i64 (T k)) ∧ W.cell? ⟨b, off + k * 2 + 1, none⟩ = some (.string (B k)) := fun k hk => by
          have := hcell k (by omega)
          rw [add_plain, add_plain, (hT k (by omega)).1, hB k (by omega)] at this
          exact ⟨this.1, by rw [Nat.add_assoc]; exact this.2.1⟩
        exact .inr ⟨b, off, rfl, World.block_lt_of_cell? W ⟨b, off + 0 * 2, none⟩ (hc' 0 (by omega)).1, hc'⟩
  clear hA0 hval0
  refine (walk a0 len0 cap0 T B W w0 hT).mono fun e W' ⟨he, bel⟩ => ?_
  subst he
  exact ⟨_, rfl, _, _, _, [], _, [], hW', trodAll_mk1 (shut_bool Yba.underlying4 _), (trodAll_cons_mk (Below.trod laidOut (by kernel_rfl) (of_decide_eq_true (by kernel_rfl)) k0 bel lt0) trodAll_mk0), rfl, bel.frame _, fun h => by cases h⟩

theorem over : Rows.lawS5078ASortedRow.holds Yba.pinned (OpenSpec.ofChange Rows.lawS5078ASortedSpec) :=
  OpenClaim.holds_of_wide 3 Yba.f3 rfl rfl rfl rfl rfl rfl rfl ⟨rfl, rfl, rfl, rfl, rfl⟩ rfl rfl rfl rfl rfl (by kernel_rfl) Yba.func3 (by kernel_rfl)
    (of_decide_eq_true (by kernel_rfl)) (by unfold Func.isWrapper; first | (rw [if_pos (by decide +kernel)]; kernel_rfl) | (rw [if_neg (by decide +kernel)]; exact ⟨rfl, rfl⟩))
    (fun os started H enc _ => lifted os started H enc)

/-- THE STATEMENT -/
theorem proved : Rows.LawS5078ASortedSaid := over
#print axioms proved
end Go.Proofs.Ybulkdadi.lawS5078ASorted
