/-
  THE PROOF OF 'Rows.LawS5075BWalksCycleToldSaid': the told card.
-/
import Derived.Test.YbulkdabsFmtRows
import Derived.Test.YbulkdabsFmtCards
import Derived.Test.YbulkdabsFmtFn
import Derived.WalkKit
import Derived.ProofKit
import Derived.OpenShut
import Derived.ChangeOld
import Derived.Below
import Derived.Deep.SlicePairs
import Derived.Deep.Matrix
import Derived.Deep.Grids
import Derived.ChangeArms
import Derived.Stop.JoinedTold
import Derived.SevenToldRow
namespace Go.Proofs.YbulkdabsFmt.lawS5075BWalksCycle
open Go.ChangeShapes Go.WideShapes Go.ChangeAt Go.RowKit Go.Deep
open Go.Extern.Stop Go.Stop Go.Extern
set_option linter.unusedVariables false

theorem own : ownKnob Ybaf.prog.godebug = none := by kernel_rfl
theorem laidOut : laidOutB Ybaf.prog = true := by kernel_rfl
theorem laidOutP : laidOutB Ybaf.pinned.checked.prog = true := by kernel_rfl
theorem stops : Ybaf.pinned.checked.prog.stops = ["fmt.errorf"] := by kernel_rfl
theorem stopKnobs : Ybaf.pinned.checked.prog.stopKnobs = [] := by kernel_rfl
theorem quiet (os : Os) : Stop.quiet Ybaf.pinned.checked.prog os := by
  intro k hk
  rw [stopKnobs] at hk
  cases hk

/-- An address whose cell holds something has no spot. -/
theorem plain_addr {W : World} {a : Addr} {v : Value} (h : W.cell? (a.add 0) = some v) : ∃ b off, a = ⟨b, off, none⟩ ∧ b < W.heap.size := by
  obtain ⟨b, off, spot⟩ := a
  have hs : spot = none := by simpa [Addr.add] using World.cell?_spot h
  subst hs
  rw [add_plain] at h
  exact ⟨b, off, rfl, World.block_lt_of_cell? W ⟨b, off + 0, none⟩ h⟩

theorem open_reqs {H : Type} {enc : TypeId × Value → H} {W : World} {a0 : Option Addr} {N cap0 : Nat} {d : DataW H} {p : List MemPlace} (h : DataW.Trod enc Ybaf.prog W 0 (fun _ => true) true 22 (.slice a0 N cap0) d p) :
    ∃ (A : Nat → Option Addr) (L C : Nat → Nat) (U : Nat → Nat → Int),
      (0 < N → ∃ b off, a0 = some ⟨b, off, none⟩ ∧ b < W.heap.size ∧ ∀ r, r < N → W.cell? ⟨b, off + r, none⟩ = some (.slice (A r) (L r) (C r))) ∧
      (∀ r, r < N → 0 < L r → ∃ b off, A r = some ⟨b, off, none⟩ ∧ b < W.heap.size ∧ ∀ c, c < L r → W.cell? ⟨b, off + c, none⟩ = some (.int .u8 (U r c))) ∧ ∀ r c, 0 ≤ U r c ∧ U r c ≤ 255 := by
  obtain ⟨fuel, hf⟩ := h
  rcases open_int_rows Ybaf.underlying22 Ybaf.underlying24 Ybaf.underlying5 (by kernel_rfl) (by kernel_rfl) hf with ⟨hcs, _⟩ | ⟨a, len, cap, A, L, C, Z, hcs, _, hl, hm, _, hx⟩
  · simp [Value.cells] at hcs
    obtain ⟨rfl, rfl, rfl⟩ := hcs
    exact ⟨fun _ => none, fun _ => 0, fun _ => 0, fun _ _ => 0, fun h => by omega, fun r hr => by omega, fun _ _ => by dsimp only; decide⟩
  · simp [Value.cells] at hcs
    obtain ⟨rfl, rfl, rfl⟩ := hcs
    refine ⟨A, L, C, fun r c => if r < N then (Z r).getD c 0 else 0, fun hp => ?_, fun r hr hp => ?_, fun r c => ?_⟩
    · obtain ⟨b, off, rfl, hb⟩ := plain_addr (hx 0 (by omega)).1
      exact ⟨b, off, rfl, hb, fun r hr => by rw [← add_plain]; exact (hx r (by omega)).1⟩
    · obtain ⟨_, h1, h2, h3, h4, h5, h6⟩ := hx r (by omega)
      cases hA : A r with
      | none => have := h5 hA; omega
      | some a' =>
        obtain ⟨_, h7⟩ := h6 a' hA
        obtain ⟨b, off, rfl, hb⟩ := plain_addr (h7 0 (by omega))
        exact ⟨b, off, rfl, hb, fun c hc => by dsimp only; rw [if_pos hr, ← add_plain]; exact h7 c (by omega)⟩
    · by_cases hr : r < N
      · have hw := (hx r (by omega)).2.2.2.2.1
        simp only [if_pos hr]
        simpa [List.getD] using range_u8 hw c
      · simp [hr]

theorem open_flags {H : Type} {enc : TypeId × Value → H} {W : World} {a1 : Option Addr} {NF cap1 : Nat} {d : DataW H} {p : List MemPlace} (h : DataW.Trod enc Ybaf.prog W 0 (fun _ => true) true 23 (.slice a1 NF cap1) d p) :
    ∃ Fl : Nat → Bool, 0 < NF → ∃ b off, a1 = some ⟨b, off, none⟩ ∧ b < W.heap.size ∧ ∀ i, i < NF → W.cell? ⟨b, off + i, none⟩ = some (.bool (Fl i)) := by
  obtain ⟨fuel, hf⟩ := h
  rcases open_bools Ybaf.underlying23 Ybaf.underlying4 (by kernel_rfl) hf with ⟨hcs, _⟩ | ⟨a, len, cap, B, hcs, _, hl, hm, _, hx⟩
  · simp [Value.cells] at hcs
    obtain ⟨rfl, rfl, rfl⟩ := hcs
    exact ⟨fun _ => false, fun h => by omega⟩
  · simp [Value.cells] at hcs
    obtain ⟨rfl, rfl, rfl⟩ := hcs
    refine ⟨B, fun hp => ?_⟩
    obtain ⟨b, off, rfl, hb⟩ := plain_addr (hx 0 (by omega))
    exact ⟨b, off, rfl, hb, fun i hi => by rw [← add_plain]; exact hx i (by omega)⟩

theorem open_counts {H : Type} {enc : TypeId × Value → H} {W : World} {a2 : Option Addr} {NC cap2 : Nat} {d : DataW H} {p : List MemPlace} (h : DataW.Trod enc Ybaf.prog W 0 (fun _ => true) true 24 (.slice a2 NC cap2) d p) :
    ∃ Ct : Nat → Int, (0 < NC → ∃ b off, a2 = some ⟨b, off, none⟩ ∧ b < W.heap.size ∧ ∀ i, i < NC → W.cell? ⟨b, off + i, none⟩ = some (.int .u8 (Ct i))) ∧ ∀ i, 0 ≤ Ct i ∧ Ct i ≤ 255 := by
  obtain ⟨fuel, hf⟩ := h
  rcases open_ints Ybaf.underlying24 Ybaf.underlying5 (by kernel_rfl) hf with ⟨hcs, _⟩ | ⟨a, len, cap, zs, hcs, _, hl, hm, hz, _, hx, hwz⟩
  · simp [Value.cells] at hcs
    obtain ⟨rfl, rfl, rfl⟩ := hcs
    exact ⟨fun _ => 0, fun h => by omega, fun _ => by dsimp only; decide⟩
  · simp [Value.cells] at hcs
    obtain ⟨rfl, rfl, rfl⟩ := hcs
    have hz' : zs.length = cap2 := by simpa using hz
    refine ⟨fun i => zs.getD i 0, fun hp => ?_, fun j => by simpa [List.getD] using range_u8 hwz j⟩
    obtain ⟨b, off, rfl, hb⟩ := plain_addr (hx 0 (by omega))
    exact ⟨b, off, rfl, hb, fun i hi => by rw [← add_plain]; exact hx i (by omega)⟩

set_option maxRecDepth 100000 in
theorem lifted (os : Os) (started : os.Started) (H : Type) (enc : TypeId × Value → H) :
    ReturnsInTold none {} Ybaf.checked os 3 .any Input.okWide ((OpenSpec.ofChange Rows.lawS5075BWalksCycleSpec).preRow enc Ybaf.prog Ybaf.f3 [] false []) (fun F => ((OpenSpec.ofChange Rows.lawS5075BWalksCycleSpec).at F).post enc Ybaf.prog Ybaf.f3 false true false false) (aloneAtReturn Ybaf.prog) nothingAlways := by
  refine returnsInTold_of_row (C := Ybaf.checked) (s := OpenSpec.ofChange Rows.lawS5075BWalksCycleSpec) (by kernel_rfl) own started (by kernel_rfl) Ybaf.func3
    (OpenSpec.witness_stopped (enc := enc) (C := Ybaf.checked) false ⟨#[], #[.slice none 0 0, .slice none 0 0, .slice none 0 0], []⟩ 8 (by kernel_rfl) (by kernel_rfl) (by kernel_rfl) (by kernel_rfl)) ?_
  intro F W base args ds gs before _ hF hval0 hW _ _ _ _ _
  have hval : ∀ (j : Nat) t v, Ybaf.f3.params[j]? = some t → args[j]? = some v → Value.okWide Ybaf.prog W .any base t v := hval0
  have hW' := hW
  obtain ⟨p, q, hA0, hV, rfl, hfz, hnd⟩ := hW
  have hA : DataW.TrodAll enc Ybaf.prog W 0 (fun _ => true) true Ybaf.f3.params.toList args.toList ds p := hA0
  rw [Ybaf.params3] at hA hval
  obtain ⟨v0, vs0, d0, ds0, p0, q0, hargs, rfl, rfl, h0, r0⟩ := trodAll_cons hA
  obtain ⟨v1, vs1, d1, ds1, p1, q1, rfl, rfl, rfl, h1, r1⟩ := trodAll_cons r0
  obtain ⟨v2, vs2, d2, ds2, p2, q2, rfl, rfl, rfl, h2, r2⟩ := trodAll_cons r1
  obtain ⟨rfl, rfl, rfl⟩ := trodAll_nil r2
  obtain rfl : args = #[v0, v1, v2] := by cases args; simp_all
  obtain ⟨rfl, rfl⟩ := trodVars_none hV
  obtain ⟨a0, len0, cap0, rfl⟩ := okWide_slice Ybaf.underlying22 (hval 0 22 v0 rfl rfl)
  obtain ⟨a1, len1, cap1, rfl⟩ := okWide_slice Ybaf.underlying23 (hval 1 23 v1 rfl rfl)
  obtain ⟨a2, len2, cap2, rfl⟩ := okWide_slice Ybaf.underlying24 (hval 2 24 v2 rfl rfl)
  have lt0 : ∀ x ∈ p0, x.block < W.heap.size := by obtain ⟨m, hm⟩ := h0; exact DataW.trod_lt m _ _ _ hm
  have lt1 : ∀ x ∈ p1, x.block < W.heap.size := by obtain ⟨m, hm⟩ := h1; exact DataW.trod_lt m _ _ _ hm
  have lt2 : ∀ x ∈ p2, x.block < W.heap.size := by obtain ⟨m, hm⟩ := h2; exact DataW.trod_lt m _ _ _ hm
  obtain ⟨A, L, C, U, i1, i2, i3⟩ := open_reqs h0
  obtain ⟨Fl, i4⟩ := open_flags h1
  obtain ⟨Ct, i5, i6⟩ := open_counts h2
  clear hA0 hval0
  refine (Fn.fn_any F.told W a0 len0 cap0 A L C U a1 len1 cap1 Fl a2 len2 cap2 Ct hF ⟨i1, i2, i3, i4, i5, i6⟩).mono fun e W' ⟨he, bel⟩ => ?_
  subst he
  exact ⟨_, rfl, _, _, _, [], _, [], hW', trodAll_mk1 (shut_bool Ybaf.underlying4 _), (trodAll_cons_mk (Below.trod laidOut (by kernel_rfl) (of_decide_eq_true (by kernel_rfl)) h0 bel lt0) (trodAll_cons_mk (Below.trod laidOut (by kernel_rfl) (of_decide_eq_true (by kernel_rfl)) h1 bel lt1) (trodAll_cons_mk (Below.trod laidOut (by kernel_rfl) (of_decide_eq_true (by kernel_rfl)) h2 bel lt2) trodAll_mk0))), rfl, bel.frame _, fun h => by cases h⟩

/-- THE STATEMENT -/
theorem proved : Rows.LawS5075BWalksCycleToldSaid :=
  Claim7.holds_of_told_any 3 Ybaf.f3 "fmt.errorf" [] [] _ _ _ (by kernel_rfl) rfl rfl rfl laidOutP (by kernel_rfl) rfl ⟨rfl, rfl, rfl, rfl, rfl, rfl, rfl⟩ rfl rfl (by kernel_rfl) (by kernel_rfl) Ybaf.func3 (by kernel_rfl)
    (of_decide_eq_true (by kernel_rfl)) (of_decide_eq_true (by kernel_rfl)) stops.symm rfl stopKnobs.symm (by kernel_rfl)
    (by kernel_rfl) (by kernel_rfl) (by kernel_rfl) (by kernel_rfl) (by kernel_rfl) (by kernel_rfl) (by kernel_rfl) (by kernel_rfl) (by kernel_rfl) rfl (by kernel_rfl) rfl rfl
    rfl rfl
    rfl (by kernel_rfl) (by kernel_rfl) (by kernel_rfl) (by decide) (by kernel_rfl)
    (OpenClaim.moreEntering_of (by kernel_rfl) (by kernel_rfl) (by kernel_rfl) (by kernel_rfl) (by kernel_rfl) (by kernel_rfl) (by kernel_rfl) (by kernel_rfl) (by kernel_rfl) (by kernel_rfl))
    ⟨_, WideRow.started_initial, quiet _⟩
    (fun os started _ H enc _ => lifted os started H enc)
#print axioms proved
end Go.Proofs.YbulkdabsFmt.lawS5075BWalksCycle
