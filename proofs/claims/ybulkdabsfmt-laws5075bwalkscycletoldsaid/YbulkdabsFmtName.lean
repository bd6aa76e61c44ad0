/-
  zzs5075bname (4) AT THIS DUMP.
-/
import Derived.Test.YbulkdabsFmtRows
import Derived.WalkKit
import Derived.ProofKit
import Derived.WalkLawsBesides
import Derived.WalkSpells
import Derived.Below
namespace Go.Proofs.YbulkdabsFmt.Nm
open Go.ChangeShapes Go.WideShapes Go.ChangeAt Go.RowKit

theorem hide {p : Prop} (h : p) : Hid p := h
theorem unhide {p : Prop} (h : Hid p) : p := h

/-- The i-th name. -/
def nm (i : Nat) : ByteArray := ⟨#[110, UInt8.ofNat (97 + i / 26), UInt8.ofNat (97 + i % 26)]⟩

theorem nm_inj {i j : Nat} (hi : i < 676) (hj : j < 676) (h : nm i = nm j) : i = j := by
  unfold nm at h
  simp only [ByteArray.mk.injEq, Array.mk.injEq, List.cons.injEq, and_true, true_and] at h
  obtain ⟨h1, h2⟩ := h
  have e1 := congrArg UInt8.toNat h1
  have e2 := congrArg UInt8.toNat h2
  rw [UInt8.toNat_ofNat', UInt8.toNat_ofNat'] at e1 e2
  omega

theorem conv2 (i : Nat) (hi : i < 676) (w : World) : (convert 24 9 (.slice (some ⟨w.heap.size, 0, none⟩) 2 2)).run Ybaf.prog (w.alloc (.cells #[.int .u8 (97 + (i : Int) / 26), .int .u8 (97 + (i : Int) % 26)] 5)) =
    .ok (.string ⟨#[UInt8.ofNat (97 + i / 26), UInt8.ofNat (97 + i % 26)]⟩) (w.alloc (.cells #[.int .u8 (97 + (i : Int) / 26), .int .u8 (97 + (i : Int) % 26)] 5)) := by
  have a1 : ((UInt8.ofNat (97 + i / 26)).toNat : Int) = 97 + (i : Int) / 26 := by rw [UInt8.toNat_ofNat']; omega
  have a2 : ((UInt8.ofNat (97 + i % 26)).toNat : Int) = 97 + (i : Int) % 26 := by rw [UInt8.toNat_ofNat']; omega
  refine run_convert_bytes_back (P := Ybaf.prog) _ 24 9 5 ⟨w.heap.size, 0, none⟩ 2 [UInt8.ofNat (97 + i / 26), UInt8.ofNat (97 + i % 26)] Ybaf.underlying24 Ybaf.underlying5 Ybaf.underlying9 (fun j hj => ?_)
  match j, hj with
  | 0, _ => simp [Addr.add]; exact a1.symm
  | 1, _ => simp [Addr.add]; exact a2.symm

set_option maxHeartbeats 1000000 in
theorem name_any (i : Nat) (hi : i < 676) (w : World) :
    Calls Ybaf.prog 4 #[.int .i64 (i : Int)] w fun e w' => e = .returned (.string (nm i)) ∧ Below w.heap.size w w' := by
  have hcv := conv2 i hi w
  unfold nm
  generalize UInt8.ofNat (97 + i / 26) = x at hcv
  generalize UInt8.ofNat (97 + i % 26) = y at hcv
  go_enter Ybaf.func4, Ybaf.ntmps4
  go_wp2
  go_ret
  refine ⟨?_, (Below.refl _ _).alloc (Nat.le_refl _) _⟩
  rfl
end Go.Proofs.YbulkdabsFmt.Nm
