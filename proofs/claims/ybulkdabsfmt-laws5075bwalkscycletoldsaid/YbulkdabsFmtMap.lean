/-
  THE TWO MAPS' WORDS: map[string]Package by a reader of our own; map[string]int by the guide's.
-/
import Derived.Test.YbulkdabsFmtName
import Derived.Maps.Own
import Derived.Maps.OwnSet
import Derived.Maps.RangeWalk
namespace Go.Proofs.YbulkdabsFmt.Mp
open Go.ChangeShapes Go.WideShapes Go.ChangeAt Go.RowKit Go.Maps Go.Proofs.YbulkdabsFmt.Nm

/-- A Package whose formula lies in block f, whose version in block g, without a configuration. -/
def pkg (f g : Nat) : Value := .agg #[.pointer (some ⟨f, 0, none⟩), .pointer (some ⟨g, 0, none⟩), .map none, .map none]
def pd (f g : Nat) : DataW Unit := .agg [.lit (.int .i64 (f : Int)), .lit (.int .i64 (g : Int))]
/-- How a Package reads here: as the two blocks' numbers; the zero value as nil. -/
def RP : Value → Option (DataW Unit × List MemPlace)
  | .agg ⟨[.pointer (some ⟨f, 0, none⟩), .pointer (some ⟨g, 0, none⟩), .map none, .map none]⟩ => some (pd f g, [])
  | .agg ⟨[.pointer none, .pointer none, .map none, .map none]⟩ => some (.nil, [])
  | _ => none
theorem RP_pkg (f g : Nat) : RP (pkg f g) = some (pd f g, []) := rfl
theorem RP_inv {v : Value} {f g : Nat} {ps : List MemPlace} (h : RP v = some (pd f g, ps)) : v = pkg f g := by
  unfold RP at h
  split at h
  · simp only [Option.some.injEq, Prod.mk.injEq, pd, DataW.agg.injEq, List.cons.injEq, DataW.lit.injEq, Lit.int.injEq, true_and, and_true] at h
    obtain ⟨⟨h1, h2⟩, _⟩ := h
    unfold pkg
    have e1 := Int.ofNat.inj h1
    have e2 := Int.ofNat.inj h2
    subst e1 e2
    rfl
  · simp [pd] at h
  · cases h

theorem zero52 (w : World) : (zeroValue 52).run Ybaf.prog w = .ok (.agg #[.pointer none, .pointer none, .map none, .map none]) w := by kernel_rfl
theorem zero3 (w : World) : (zeroValue 3).run Ybaf.prog w = .ok (.int .i64 0) w := by kernel_rfl
theorem kd : Keyed Ybaf.prog 9 := string_keyed Ybaf.underlying9

theorem look_pkg {w : World} {b n : Nat} {D : DataW Unit} (h : w.ownsMap Ybaf.prog 9 RP b n D) (s : ByteArray) (hs : s.size ≤ maxLen) {f g : Nat} (hat : D.atKey (.string s.data.toList) .nil = pd f g) :
    (Instr.lookup 29 (.map (some b)) (.string s) false).run Ybaf.prog w = .ok (pkg f g) w := by
  obtain ⟨v, ps, hrun, hv⟩ := h.lookup kd Ybaf.underlying29 (zero52 w) (zd := .nil) (zp := []) rfl (Go.WideMaps.keyOf_string_mk Ybaf.underlying9 hs)
  rw [hat] at hv
  rw [hrun, RP_inv hv]
theorem look_int {w : World} {b n : Nat} {D : DataW Unit} (h : w.ownsMap Ybaf.prog 9 (plainElem Ybaf.prog 3) b n D) (s : ByteArray) (hs : s.size ≤ maxLen) {c : Int} (hat : D.atKey (.string s.data.toList) (.lit (.int .i64 0)) = .lit (.int .i64 c)) :
    (Instr.lookup 28 (.map (some b)) (.string s) false).run Ybaf.prog w = .ok (.int .i64 c) w := by
  obtain ⟨d, hrun, hd, _⟩ := h.lookup_int kd Ybaf.underlying28 Ybaf.underlying3 (zero3 w) (Go.WideMaps.keyOf_string_mk Ybaf.underlying9 hs)
  rw [hat] at hd
  simp only [DataW.lit.injEq, Lit.int.injEq, true_and] at hd
  rw [hrun, ← hd]
end Go.Proofs.YbulkdabsFmt.Mp
