/-
  THE WALKS OF zzs5079abuild (6) AND zzs5079aunchanged (11).
-/
import Derived.Test.YbulkdadwRows
import Derived.WalkKit
import Derived.ProofKit
import Derived.WalkLawsBesides
import Derived.WalkSpells
import Derived.Below
namespace Go.Proofs.Ybulkdadw.Bld
open Go.ChangeShapes Go.WideShapes Go.ChangeAt Go.RowKit

theorem info4 : (Yba.prog.info? 4).map (fun i => (i.zero, i.size, i.bytes)) = some (some (.bool false), 1, 1) := by kernel_rfl

/-- A slice of bools that came in: no element; or its cells, by an index function. -/
def Bools (w : World) (a : Option Addr) (len : Nat) (B : Nat → Bool) : Prop :=
  len = 0 ∨ ∃ b off, a = some ⟨b, off, none⟩ ∧ b < w.heap.size ∧ ∀ k, k < len → w.cell? ⟨b, off + k, none⟩ = some (.bool (B k))

/-- n cells: the first k of them off B, the rest false. -/
def cut (n k : Nat) (B : Nat → Bool) : List Value := (List.range n).map fun j => .bool (decide (j < k) && B j)
theorem cut_set (n k : Nat) (B : Nat → Bool) : (cut n k B).set k (.bool (B k)) = cut n (k + 1) B := by
  unfold cut
  apply List.ext_getElem?
  intro j
  rw [List.getElem?_set]
  by_cases hj : j < n
  · by_cases hk : k = j
    · subst hk; simp [hj]
    · rw [if_neg hk]
      simp only [List.getElem?_map, List.getElem?_range hj, Option.map_some, Option.some.injEq, Value.bool.injEq]
      congr 1
      rw [decide_eq_decide]; omega
  · by_cases hk : k = j
    · subst hk; simp [hj]
    · rw [if_neg hk]; simp [hj]
theorem cut_zero (n : Nat) (B : Nat → Bool) : cut n 0 B = List.replicate n (.bool false) := by
  unfold cut
  apply List.ext_getElem?
  intro j
  by_cases hj : j < n <;> simp [hj]
theorem cut_get (n k j : Nat) (B : Nat → Bool) (hj : j < n) : (cut n k B)[j]? = some (.bool (decide (j < k) && B j)) := by
  unfold cut; simp [hj]

theorem mk_full (w : World) (n : Nat) (h : n ≤ 4096) (base : Nat) (hb : base ≤ w.heap.size) (B : Nat → Bool) : ∃ w', (Instr.makeSlice 22 (.int .i64 (n : Int)) (.int .i64 (n : Int))).run Yba.prog w = .ok (.slice (some ⟨w.heap.size, 0, none⟩) n n) w' ∧
    w'.ownsRow base 4 1 (.slice (some ⟨w.heap.size, 0, none⟩) n n) n (cut n 0 B) ∧ w.grownBy w' none ∧ w'.heap.size = w.heap.size + 1 := by
  obtain ⟨i0, hi, hz0, hz1, hz2⟩ := info_parts info4
  have hr := run_make (P := Yba.prog) w 22 4 i0 (.bool false) Yba.underlying22 hi hz0 .i64 .i64 n n (by omega) (by omega) (by rw [hz2]; omega) (by omega)
  rw [hz1] at hr
  refine ⟨w.alloc (.cells (madeCells #[.bool false] n) 4), by simpa [Value.cells] using hr, ?_, World.grownBy_alloc w _ none, by simp⟩
  have := World.ownsRow_lit (base := base) (e := 4) (size := 1) w (madeCells #[.bool false] n) n hb (by unfold maxLen; omega) (by rw [size_madeCells]; omega)
  rwa [toList_madeCells_one, ← cut_zero n B] at this

/-- What the build leaves. -/
structure Built (w w' : World) (n n1 n2 : Nat) (B1 B2 : Nat → Bool) (l h : Nat) : Prop where
  lo : ∀ j, j < n → w'.cell? ⟨l, j, none⟩ = some (.bool (decide (j < n1) && B1 j))
  hi : ∀ j, j < n → w'.cell? ⟨h, j, none⟩ = some (.bool (decide (j < n2) && B2 j))
  ll : l < w'.heap.size
  lh : h < w'.heap.size
  below : Below w.heap.size w w'

set_option maxHeartbeats 1000000 in
theorem build_any (a1 a2 : Option Addr) (n1 c1 n2 c2 n : Nat) (B1 B2 : Nat → Bool) (w : World) (h1 : n1 ≤ 1024) (h2 : n2 ≤ 1024) (hn : n = max n1 n2 + 1) (r1 : Bools w a1 n1 B1) (r2 : Bools w a2 n2 B2) :
    Calls Yba.prog 6 #[.slice a1 n1 c1, .slice a2 n2 c2] w fun e w' => ∃ l h, e = .returned (.tuple #[.slice (some ⟨l, 0, none⟩) n n, .slice (some ⟨h, 0, none⟩) n n]) ∧ Built w w' n n1 n2 B1 B2 l h := by
  obtain ⟨w0, m1, o1, g1, z1⟩ := mk_full w n (by omega) w.heap.size (Nat.le_refl _) B1
  obtain ⟨w1, m2, o2, g2, z2⟩ := mk_full w0 n (by omega) w.heap.size (by omega) B2
  rw [z1] at m2 o2
  have o1' := o1.kept g2 (.inr (by simp [Value.ownBlock]))
  have b1 : Below w.heap.size w w1 := ((Below.refl _ _).grown g1 (Nat.le_refl _) (fun k h => by cases h)).grown g2 (by omega) (fun k h => by cases h)
  have HO : Hid (w1.ownsRow w.heap.size 4 1 (.slice (some ⟨w.heap.size, 0, none⟩) n n) n (cut n 0 B1) ∧ w1.ownsRow w.heap.size 4 1 (.slice (some ⟨w.heap.size + 1, 0, none⟩) n n) n (cut n 0 B2) ∧ Below w.heap.size w w1 ∧ w1.heap.size = w.heap.size + 2) := ⟨o1', o2, b1, by omega⟩
  have HM : Hid (n = max n1 n2 + 1) := hn
  have hn1 : n1 < n := by omega
  have hn2 : n2 < n := by omega
  clear o1 g1 z1 o2 g2 z2 o1' b1 hn
  have r1' : (∃ b off, a1 = some ⟨b, off, none⟩ ∧ Hid (b < w.heap.size ∧ ∀ k, k < n1 → w.cell? ⟨b, off + k, none⟩ = some (.bool (B1 k)))) ∨ Hid (n1 = 0) := by
    rcases r1 with h | ⟨b, off, h, hb, hc⟩
    · exact .inr h
    · exact .inl ⟨b, off, h, hb, hc⟩
  have r2' : (∃ b off, a2 = some ⟨b, off, none⟩ ∧ Hid (b < w.heap.size ∧ ∀ k, k < n2 → w.cell? ⟨b, off + k, none⟩ = some (.bool (B2 k)))) ∨ Hid (n2 = 0) := by
    rcases r2 with h | ⟨b, off, h, hb, hc⟩
    · exact .inr h
    · exact .inl ⟨b, off, h, hb, hc⟩
  clear r1 r2
  rcases r1' with ⟨f1, t1, rfl, H1⟩ | H1
  all_goals
    rcases r2' with ⟨f2, t2, rfl, H2⟩ | H2
    all_goals
      by_cases hc : (n1 : Int) < n2
      all_goals
        first
          | (have e : (n2 : Int) + 1 = n := by (have := HM.out; omega)
             rw [← e] at m1 m2; clear e)
          | (have e : (n1 : Int) + 1 = n := by (have := HM.out; omega)
             rw [← e] at m1 m2; clear e)
        go_enter Yba.func6, Yba.ntmps6
        go_wp2
        go_loopw [9] (fun i wr => ∃ k : Nat, k ≤ n1 ∧ i = .int .i64 k ∧ Hid (wr.ownsRow w.heap.size 4 1 (.slice (some ⟨w.heap.size, 0, none⟩) n n) n (cut n k B1) ∧ wr.ownsRow w.heap.size 4 1 (.slice (some ⟨w.heap.size + 1, 0, none⟩) n n) n (cut n 0 B2) ∧ Below w.heap.size w wr ∧ wr.heap.size = w.heap.size + 2)) (fun i _ => n1 - (intOf i).toNat)
        case atStart => exact ⟨0, Nat.zero_le _, rfl, HO⟩
        case round =>
          obtain ⟨k, hk, rfl, HR⟩ := hrel
          by_cases hlt : k < n1
          · first
              | (exfalso; have := H1.out; omega)
              | (obtain ⟨o1, o2, hb, hz⟩ := HR.out
                 have hcx : wr.cell? ⟨f1, t1 + k, none⟩ = some (.bool (B1 k)) := (hb.cell (by exact H1.out.1)).trans (H1.out.2 k hlt)
                 have g0 : wr.cell? ⟨w.heap.size, k, none⟩ = some (.bool (decide (k < k) && B1 k)) := by rw [o1.cellAt k (by omega), cut_get n k k B1 (by omega)]
                 have g1 := o1.frozenAt k
                 obtain ⟨s1, s2⟩ := o1.stored k (.bool (B1 k))
                 rw [cut_set] at s1
                 have HS : Hid (World.ownsRow (wr.setCell ⟨w.heap.size, k, none⟩ (.bool (B1 k))) w.heap.size 4 1 (.slice (some ⟨w.heap.size, 0, none⟩) n n) n (cut n (k + 1) B1) ∧ World.ownsRow (wr.setCell ⟨w.heap.size, k, none⟩ (.bool (B1 k))) w.heap.size 4 1 (.slice (some ⟨w.heap.size + 1, 0, none⟩) n n) n (cut n 0 B2) ∧ Below w.heap.size w (wr.setCell ⟨w.heap.size, k, none⟩ (.bool (B1 k))) ∧ (wr.setCell ⟨w.heap.size, k, none⟩ (.bool (B1 k))).heap.size = w.heap.size + 2) := ⟨s1, o2.kept s2 (.inr (by simp [Value.ownBlock])), hb.setCell (Nat.le_refl _) _, by simp [hz]⟩
                 clear o1 o2 hb hz s1 s2 HR
                 go_wp2
                 go_roundw
                 case rel => exact ⟨k + 1, by omega, by go_num, HS⟩
                 case measure => simp [intOf]; omega)
          · have ek : k = n1 := by omega
            rw [ek] at HR
            have HT : Hid (wr.ownsRow w.heap.size 4 1 (.slice (some ⟨w.heap.size, 0, none⟩) n n) n (cut n n1 B1) ∧ wr.ownsRow w.heap.size 4 1 (.slice (some ⟨w.heap.size + 1, 0, none⟩) n n) n (cut n 0 B2) ∧ Below w.heap.size w wr ∧ wr.heap.size = w.heap.size + 2) := HR
            clear ek HR
            go_wp2
            go_loopw [10] (fun i wr => ∃ k : Nat, k ≤ n2 ∧ i = .int .i64 k ∧ Hid (wr.ownsRow w.heap.size 4 1 (.slice (some ⟨w.heap.size, 0, none⟩) n n) n (cut n n1 B1) ∧ wr.ownsRow w.heap.size 4 1 (.slice (some ⟨w.heap.size + 1, 0, none⟩) n n) n (cut n k B2) ∧ Below w.heap.size w wr ∧ wr.heap.size = w.heap.size + 2)) (fun i _ => n2 - (intOf i).toNat)
            case atStart => exact ⟨0, Nat.zero_le _, rfl, HT⟩
            case round =>
              obtain ⟨m, hm, rfl, HR⟩ := hrel
              by_cases hmt : m < n2
              · first
                  | (exfalso; have := H2.out; omega)
                  | (obtain ⟨o1, o2, hb, hz⟩ := HR.out
                     have hcx : wr.cell? ⟨f2, t2 + m, none⟩ = some (.bool (B2 m)) := (hb.cell (by exact H2.out.1)).trans (H2.out.2 m hmt)
                     have g0 : wr.cell? ⟨w.heap.size + 1, m, none⟩ = some (.bool (decide (m < m) && B2 m)) := by rw [o2.cellAt m (by omega), cut_get n m m B2 (by omega)]
                     have g1 := o2.frozenAt m
                     obtain ⟨s1, s2⟩ := o2.stored m (.bool (B2 m))
                     rw [cut_set] at s1
                     have HS : Hid (World.ownsRow (wr.setCell ⟨w.heap.size + 1, m, none⟩ (.bool (B2 m))) w.heap.size 4 1 (.slice (some ⟨w.heap.size, 0, none⟩) n n) n (cut n n1 B1) ∧ World.ownsRow (wr.setCell ⟨w.heap.size + 1, m, none⟩ (.bool (B2 m))) w.heap.size 4 1 (.slice (some ⟨w.heap.size + 1, 0, none⟩) n n) n (cut n (m + 1) B2) ∧ Below w.heap.size w (wr.setCell ⟨w.heap.size + 1, m, none⟩ (.bool (B2 m))) ∧ (wr.setCell ⟨w.heap.size + 1, m, none⟩ (.bool (B2 m))).heap.size = w.heap.size + 2) := ⟨o1.kept s2 (.inr (by simp [Value.ownBlock])), s1, hb.setCell (Nat.le_succ _) _, by simp [hz]⟩
                     clear o1 o2 hb hz s1 s2 HR HT
                     go_wp2
                     go_roundw
                     case rel => exact ⟨m + 1, by omega, by go_num, HS⟩
                     case measure => simp [intOf]; omega)
              · have em : m = n2 := by omega
                rw [em] at HR
                clear em
                go_wp2
                go_ret2
                obtain ⟨o1, o2, hb, hz⟩ := HR.out
                refine ⟨_, _, rfl, fun j hj => ?_, fun j hj => ?_, by omega, by omega, hb⟩
                · rw [o1.cellAt j (by omega), cut_get n n1 j B1 hj]
                · rw [o2.cellAt j (by omega), cut_get n n2 j B2 hj]
end Go.Proofs.Ybulkdadw.Bld
