/-
  strings.Join (8) AT THIS DUMP, off the shelf.
-/
import Derived.Test.YbulkdabsFmtName
import Derived.Shelf.Lay
import Derived.Shelf.Strings.OnBuilder
import Derived.Ground.NamesProg
namespace Go.Proofs
open Go.Shelf
shelf_lay Lays.n156 Nm 156 at Ybaf as Ybaf.laysJoin
theorem Ybaf.extra : Builder.Extra Ybaf.prog Ybaf.laysJoin_ren where
  sizeBuilder := by kernel_rfl
  liesBuilder := by kernel_rfl
  t5 := Ybaf.underlying5
  a5 := Ybaf.isAgg5
  z5 := Ybaf.sizeOf5
  v5 := Ybaf.zeroValue5
  infoByte := by kernel_rfl
  cellsByte := by kernel_rfl
  sizeByte := by kernel_rfl
  neB5 := by decide
end Go.Proofs
namespace Go.Proofs.YbulkdabsFmt.Nm
open Go.RowKit Go.Shelf
theorem join_any (bk : Nat) (xs : List ByteArray) (sep : ByteArray) (w : World) (hcells : ∀ (j : Nat) x, xs[j]? = some x → w.cell? ⟨bk, j, none⟩ = some (.string x)) (hbk : bk < w.heap.size) (hN : xs.length ≤ 140737488355328)
    (hlen : (Lib.join (xs.map (·.data.toList)) sep.data.toList).length ≤ 140737488355328) :
    Calls Ybaf.prog 8 #[.slice (some ⟨bk, 0, none⟩) xs.length xs.length, .string sep] w fun e w' => (∃ x, e = .returned (.string x)) ∧ Below w.heap.size w w' := by
  have h := Any.strings_Join (P := Ybaf.prog) (ρ := Ybaf.laysJoin_ren) Ybaf.laysJoin Ybaf.extra bk 0 xs.length xs sep w (fun j x hx => by rw [Nat.zero_add]; exact hcells j x hx) hbk hN (Nat.le_refl _) hlen
  change Calls Ybaf.prog 8 _ _ _ at h
  exact h.mono fun _ _ ⟨he, hb⟩ => ⟨⟨_, he⟩, hb⟩
end Go.Proofs.YbulkdabsFmt.Nm
