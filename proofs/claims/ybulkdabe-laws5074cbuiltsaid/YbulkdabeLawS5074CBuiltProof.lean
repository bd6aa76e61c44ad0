/-
  THE PROOF OF 'Rows.LawS5074CBuiltSaid': the frame by the guide's skeleton tool, the walk by hand.
-/
import Derived.Test.YbulkdabeRows
import Derived.Test.YbulkdabeWalks
import Derived.WalkKit
import Derived.ProofKit
import Derived.OpenShut
import Derived.ShutString
import Derived.ChangeOld
import Derived.Below
import Derived.WalkSpells
namespace Go.Proofs.Ybulkdabe.lawS5074CBuilt
open Go.ChangeShapes Go.WideShapes Go.ChangeAt Go.RowKit
open Go.ChangeMaps (open_string shut_string)
set_option linter.unusedVariables false

theorem own : ownKnob Yba.prog.godebug = none := by kernel_rfl
theorem laidOut : laidOutB Yba.prog = true := by kernel_rfl

/-- WHAT THE WALK IS TOLD OF A SLICE OF INTEGERS THAT CAME IN: it is nil; or it leads to a row of 'cap' cells, the numbers 'zs' (the first 'len' are its elements, the rest its spare room), each fitting its kind. -/
def IsRow (k : IntKind) (w : World) (a : Option Addr) (len cap : Nat) (zs : List Int) : Prop :=
  (a = none ∧ len = 0 ∧ cap = 0 ∧ zs = []) ∨
  ∃ x, a = some x ∧ len ≤ cap ∧ cap ≤ maxLen ∧ zs.length = cap ∧ (∀ i, i < zs.length → w.cell? (x.add i) = some (.int k (zs.getD i 0))) ∧ ∀ n ∈ zs, (Lit.int k n).wf = true

theorem hide {p : Prop} (h : p) : Hid p := h
theorem unhide {p : Prop} (h : Hid p) : p := h
/-- A byte as a cell. -/
def bv (c : UInt8) : Value := .int .u8 (c.toNat : Int)
theorem info5 : (Yba.prog.info? 5).map (fun i => (i.zero, i.size, i.bytes)) = some (some (.int .u8 0), 1, 1) := by kernel_rfl
theorem bytes_oneCell (c : UInt8) : ∀ u ∈ [bv c], u.oneCell' = true := by
  intro u hu; simp at hu; subst hu; rfl
theorem conv (wr : World) (g n cap : Nat) (bs : List UInt8) (base : Nat) (h : wr.ownsRow base 5 1 (.slice (some ⟨g, 0, none⟩) n cap) n (bs.map bv)) :
    (convert 23 9 (.slice (some ⟨g, 0, none⟩) n cap)).run Yba.prog wr = .ok (.string ⟨bs.toArray⟩) wr := by
  have hn : bs.length = n := by have := h.1; simpa using this
  subst hn
  refine run_convert_bytes_back (P := Yba.prog) _ 23 9 5 ⟨g, 0, none⟩ cap bs Yba.underlying23 Yba.underlying5 Yba.underlying9 (fun i hi => ?_)
  exact h.cells rfl i _ (by simp [hi, bv])

set_option maxHeartbeats 1600000 in
theorem built_zero (a : Option Addr) (cap : Nat) (w : World) :
    Calls Yba.prog 4 #[.slice a 0 cap] w fun e w' => e = .returned (.bool true) ∧ Below w.heap.size w w' := by
  obtain ⟨i0, hi, hz0, hz1, hz2⟩ := info_parts info5
  go_enter Yba.func4, Yba.ntmps4
  go_wp2_with (at_make; refine wpList_make_own _ rfl _ _ 23 rfl w.heap.size 5 i0 (.int .u8 0) 1 Yba.underlying23 hi hz0 hz1 _ _ _ 0 rfl rfl (by omega) ?b2 ?b3 (Nat.le_refl _) ?_)
  case b2 => rw [hz2]; omega
  case b3 => unfold maxLen; omega
  intro w0 hown0 hgrow0
  have hcv := conv w0 w.heap.size 0 0 [] w.heap.size hown0
  have hB : Below w.heap.size w w0 := (Below.refl _ _).grown hgrow0 (Nat.le_refl _) (fun k h => by cases h)
  go_wp2
  go_loopw [3, 14] (fun b i wr => wr = w0 ∧ i = .int .i64 0 ∧ b = .slice (some ⟨w.heap.size, 0, none⟩) 0 0) (fun _ _ _ => 0)
  case atStart => exact ⟨rfl, rfl, rfl⟩
  case round =>
    obtain ⟨rfl, rfl, rfl⟩ := hrel
    have hck := check_any ⟨#[]⟩ wr (by decide)
    have HK := hide hck; clear hck
    go_wp2_with (go_at_call 5; go_must (refine (unhide HK).mono ?_; rintro e w' ⟨rfl, hg, hb⟩))
    go_ret
    exact ⟨rfl, hB.trans (hb.mono hB.size)⟩

set_option maxHeartbeats 1600000 in
theorem built_pos (b off len cap : Nat) (zs : List Int) (w : World) (hl : len ≤ 4096) (hbw : b < w.heap.size) (hc : ∀ k, k < len → w.cell? ⟨b, off + k, none⟩ = some (.int .u8 (zs.getD k 0)))
    (hz : ∀ j, 0 ≤ zs.getD j 0 ∧ zs.getD j 0 ≤ 255) :
    Calls Yba.prog 4 #[.slice (some ⟨b, off, none⟩) len cap] w fun e w' => e = .returned (.bool true) ∧ Below w.heap.size w w' := by
  obtain ⟨i0, hi, hz0, hz1, hz2⟩ := info_parts info5
  go_enter Yba.func4, Yba.ntmps4
  go_wp2_with (at_make; refine wpList_make_own _ rfl _ _ 23 rfl w.heap.size 5 i0 (.int .u8 0) 1 Yba.underlying23 hi hz0 hz1 _ _ _ len rfl rfl (by omega) ?b2 ?b3 (Nat.le_refl _) ?_)
  case b2 => rw [hz2]; omega
  case b3 => unfold maxLen; omega
  intro w0 hown0 hgrow0
  have hB : Below w.heap.size w w0 := (Below.refl _ _).grown hgrow0 (Nat.le_refl _) (fun k h => by cases h)
  go_wp2
  go_loopw [3, 14] (fun bb i wr => ∃ (k : Nat) (bs : List UInt8), k ≤ len ∧ i = .int .i64 k ∧ bb = .slice (some ⟨w.heap.size, 0, none⟩) k len ∧ wr.ownsRow w.heap.size 5 1 (.slice (some ⟨w.heap.size, 0, none⟩) k len) k (bs.map bv) ∧ Below w.heap.size w wr) (fun _ i _ => len - (intOf i).toNat)
  case atStart => exact ⟨0, [], Nat.zero_le _, rfl, rfl, hown0, hB⟩
  case round =>
    obtain ⟨k, bs, hk, rfl, rfl, hown, hnx⟩ := hrel
    by_cases hlt : k < len
    · have hcx : wr.cell? ⟨b, off + k, none⟩ = some (.int .u8 (zs.getD k 0)) := (hnx.cell (by exact hbw)).trans (hc k hlt)
      obtain ⟨z, hzz⟩ : ∃ z, z = zs.getD k 0 := ⟨_, rfl⟩
      have hzk := hz k
      rw [← hzz] at hcx hzk
      obtain ⟨hza, hzb⟩ := hzk
      clear hzz hc hz
      have hr : (z % 6).toNat < (⟨#[97, 98, 44, 43, 92, 32]⟩ : ByteArray).size := by show _ < 6; omega
      obtain ⟨c, hcc⟩ : ∃ c : UInt8, (⟨#[97, 98, 44, 43, 92, 32]⟩ : ByteArray)[(z % 6).toNat]'hr = c := ⟨_, rfl⟩
      go_wp2_with (at_builtin; refine wpList_append_fits _ rfl (.tmp 18) (.tmp 23) 23 rfl w.heap.size 5 i0 1 Yba.underlying23 hi hz1 w.heap.size k len _ rfl (hown.alloc _) ⟨wr.heap.size, 0, none⟩ 1 1 [bv c] rfl rfl ?c1 ?c2 ?c3 ?_)
      case c1 =>
        intro j u hj
        match j, hj with
        | 0, hj => simp at hj; subst hj; simp [Addr.add, bv]
      case c2 => exact bytes_oneCell c
      case c3 => omega
      intro w1 hown1 hgrow1
      go_wp2
      go_roundw
      case rel => exact ⟨k + 1, bs ++ [c], by omega, by go_num, rfl, by simpa using hown1, (hnx.alloc hnx.size _).grown hgrow1 (by simp; have := hnx.size; omega) (fun k hk => by cases hk; exact Nat.le_refl _)⟩
      case measure => simp [intOf]; omega
    · have ek : k = len := by omega
      subst ek
      have hcv := conv wr w.heap.size k k bs w.heap.size hown
      have hbl : bs.length = k := by have := hown.1; simpa using this
      have hck := check_any ⟨bs.toArray⟩ wr (by show bs.toArray.size ≤ 4096; simp; omega)
      have HK := hide hck; clear hck hbl
      go_wp2_with (go_at_call 5; go_must (refine (unhide HK).mono ?_; rintro e w' ⟨rfl, hg, hb⟩))
      go_ret
      exact ⟨rfl, hnx.trans (hb.mono hnx.size)⟩

/-! ### STEP 1: THE WALK: the Go text returns true, AND WRITES NOTHING THAT WAS THERE: 'Below w.heap.size w w'' (Derived/Below.lean: '.refl', '.alloc', '.drew', '.setCell' at a new block, '.trans'). Open each 'IsRow' by 'rcases' AHEAD of 'go_enter'; part every test ahead of the walk. -/
theorem walk (a0 : Option Addr) (len0 cap0 : Nat) (z0 : List Int) (w : World) (w0 : IsRow .u8 w a0 len0 cap0 z0) :
    Calls Yba.prog 4 #[.slice a0 len0 cap0] w fun e w' => e = .returned (.bool true) ∧ Below w.heap.size w w' := by
  rcases w0 with ⟨rfl, rfl, rfl, rfl⟩ | ⟨x, rfl, hlc, hcm, hzl, hcell, hwf⟩
  · exact built_zero none 0 w
  by_cases hl0 : len0 = 0
  · subst hl0; exact built_zero (some x) cap0 w
  by_cases hl : len0 ≤ 4096
  · obtain ⟨b, off, spot⟩ := x
    have hs : spot = none := by simpa [Addr.add] using World.cell?_spot (hcell 0 (by omega))
    subst hs
    have hc' : ∀ k, k < len0 → w.cell? ⟨b, off + k, none⟩ = some (.int .u8 (z0.getD k 0)) := fun k hk => by rw [← add_plain]; exact hcell k (by omega)
    refine built_pos b off len0 cap0 z0 w hl ?_ hc' (fun j => by simpa [List.getD] using range_u8 hwf j)
    exact World.block_lt_of_cell? w ⟨b, off + 0, none⟩ (hc' 0 (by omega))
  · unfold maxLen at hcm
    go_enter Yba.func4, Yba.ntmps4
    go_wp2
    go_ret
    exact ⟨rfl, Below.refl _ _⟩

/-! ### THE ROW's STEP: WRITTEN OUT: LEAVE IT -/
set_option maxRecDepth 100000 in
theorem lifted (os : Os) (started : os.Started) (H : Type) (enc : TypeId × Value → H) :
    ReturnsInHanded {} Yba.checked os 4 .any (Rows.lawS5074CBuiltSpec.pre6 enc Yba.prog Yba.f4 Rows.lawS5074CBuiltRow.domain false) (Rows.lawS5074CBuiltSpec.post enc Yba.prog Yba.f4 false true false false) := by
  refine returnsInHanded_of_change (C := Yba.checked) own started (by kernel_rfl) Yba.func4
    (ChangeSpec.witness6 (enc := enc) (C := Yba.checked) false ⟨#[], #[.slice none 0 0], []⟩ 8 (by kernel_rfl) (by kernel_rfl) (by kernel_rfl) (by kernel_rfl)) ?_
  intro W base args ds gs before hval0 hW hcnd _
  have hval : ∀ (j : Nat) t v, Yba.f4.params[j]? = some t → args[j]? = some v → Value.okWide Yba.prog W .any base t v := hval0
  have hW' := hW
  obtain ⟨p, q, hA0, hV, rfl, hfz, hnd⟩ := hW
  have hA : DataW.TrodAll enc Yba.prog W 0 (fun _ => true) true Yba.f4.params.toList args.toList ds p := hA0
  rw [Yba.params4] at hA hval
  obtain ⟨v0, vs0, d0, ds0, p0, q0, hargs, rfl, rfl, h0, r0⟩ := trodAll_cons hA
  obtain ⟨rfl, rfl, rfl⟩ := trodAll_nil r0
  obtain rfl : args = #[v0] := by cases args; simp_all
  obtain ⟨rfl, rfl⟩ := trodVars_none hV
  obtain ⟨a0, len0, cap0, rfl⟩ := okWide_slice Yba.underlying23 (hval 0 23 v0 rfl rfl)
  have k0 := h0
  have lt0 : ∀ x ∈ p0, x.block < W.heap.size := by obtain ⟨m, hm⟩ := k0; exact DataW.trod_lt m _ _ _ hm
  obtain ⟨z0, w0⟩ : ∃ zs, IsRow .u8 W a0 len0 cap0 zs := by
    obtain ⟨fuel, hf⟩ := h0
    rcases open_ints Yba.underlying23 Yba.underlying5 (by kernel_rfl) hf with ⟨hcs, _⟩ | ⟨x, l, c, zs, hcs, _, hl, hm, hz, _, hcell, hwz⟩
    · simp [Value.cells] at hcs
      obtain ⟨rfl, rfl, rfl⟩ := hcs
      exact ⟨[], .inl ⟨rfl, rfl, rfl, rfl⟩⟩
    · simp [Value.cells] at hcs
      obtain ⟨rfl, rfl, rfl⟩ := hcs
      exact ⟨zs, .inr ⟨_, rfl, hl, hm, by simpa using hz, hcell, hwz⟩⟩
  clear hA0 hval0
  refine (walk a0 len0 cap0 z0 W w0).mono fun e W' ⟨he, bel⟩ => ?_
  subst he
  exact ⟨_, rfl, _, _, _, [], _, [], hW', trodAll_mk1 (shut_bool Yba.underlying4 _), (trodAll_cons_mk (Below.trod laidOut (by kernel_rfl) (of_decide_eq_true (by kernel_rfl)) k0 bel lt0) trodAll_mk0), rfl, bel.frame _, fun h => by cases h⟩

theorem over : Rows.lawS5074CBuiltRow.holds Yba.pinned (OpenSpec.ofChange Rows.lawS5074CBuiltSpec) :=
  OpenClaim.holds_of_wide 4 Yba.f4 rfl rfl rfl rfl rfl rfl rfl ⟨rfl, rfl, rfl, rfl, rfl⟩ rfl rfl rfl rfl rfl (by kernel_rfl) Yba.func4 (by kernel_rfl)
    (of_decide_eq_true (by kernel_rfl)) (by unfold Func.isWrapper; first | (rw [if_pos (by decide +kernel)]; kernel_rfl) | (rw [if_neg (by decide +kernel)]; exact ⟨rfl, rfl⟩))
    (fun os started H enc _ => lifted os started H enc)

/-- ████ THE STATEMENT ████ -/
theorem proved : Rows.LawS5074CBuiltSaid := over
#print axioms proved
end Go.Proofs.Ybulkdabe.lawS5074CBuilt
