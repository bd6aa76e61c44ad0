/-
  sort.siftDown_func (42) AT THIS DUMP.
-/
import Derived.Test.YbulkdadiSort0
namespace Go.Proofs.Ybulkdadi.Srt
open Go.ChangeShapes Go.WideShapes Go.ChangeAt Go.RowKit Go.Sort Go.Lib

section
variable (lt : Nat → Nat → Bool)
theorem sd_stop (hi first root : Nat) (d : Array Nat) (h : hi ≤ 2 * root + 1) : siftDown lt hi first root d = d := by
  rw [siftDown, dif_pos h]
/-- The child that is looked at. -/
def child (hi first root : Nat) (d : Array Nat) : Nat := if 2 * root + 2 < hi ∧ lt d[first + (2 * root + 1)]! d[first + (2 * root + 1) + 1]! = true then 2 * root + 2 else 2 * root + 1
theorem sd_end (hi first root : Nat) (d : Array Nat) (h : 2 * root + 1 < hi) (c : Nat) (hc : child lt hi first root d = c) (hl : lt d[first + root]! d[first + c]! = false) : siftDown lt hi first root d = d := by
  rw [siftDown, dif_neg (by omega)]
  unfold child at hc
  by_cases h2 : 2 * root + 2 < hi ∧ lt d[first + (2 * root + 1)]! d[first + (2 * root + 1) + 1]! = true
  · rw [if_pos h2] at hc
    subst hc
    rw [if_pos (by simp; exact ⟨by omega, h2.2⟩), if_pos (by simp [hl])]
  · rw [if_neg h2] at hc
    subst hc
    rw [if_neg (by simp; intro h3; exact Classical.byContradiction fun h4 => h2 ⟨by omega, by simpa using h4⟩), if_pos (by simp [hl])]
theorem sd_go (hi first root : Nat) (d : Array Nat) (h : 2 * root + 1 < hi) (c : Nat) (hc : child lt hi first root d = c) (hl : lt d[first + root]! d[first + c]! = true) : siftDown lt hi first root d = siftDown lt hi first c (swp d (first + root) (first + c)) := by
  rw [siftDown, dif_neg (by omega)]
  unfold child at hc
  by_cases h2 : 2 * root + 2 < hi ∧ lt d[first + (2 * root + 1)]! d[first + (2 * root + 1) + 1]! = true
  · rw [if_pos h2] at hc
    subst hc
    rw [if_pos (by simp; exact ⟨by omega, h2.2⟩), if_neg (by simp [hl]), dif_pos h2.1]
  · rw [if_neg h2] at hc
    subst hc
    rw [if_neg (by simp; intro h3; exact Classical.byContradiction fun h4 => h2 ⟨by omega, by simpa using h4⟩), if_neg (by simp [hl])]
theorem child_lt (hi first root : Nat) (d : Array Nat) (h : 2 * root + 1 < hi) : child lt hi first root d < hi := by
  unfold child; split <;> omega
end

set_option maxHeartbeats 2000000 in
set_option maxRecDepth 100000 in
theorem sift_any {w0 W : World} {blk n : Nat} {enc : Nat → Value} {lt : Nat → Nat → Bool} {lb sb : Array Value} {sf : Nat} {d : Array Nat} (C : Ctx w0 blk n enc lt lb sf sb) (hs : St w0 blk n enc d W) (lo hi first : Nat) (hb : first + hi ≤ n) (hlo : lo ≤ 4096) :
    Calls Yba.prog 42 #[.agg #[.func (.func 15) #[] lb, .func (.func sf) #[] sb], .int .i64 (lo : Int), .int .i64 (hi : Int), .int .i64 (first : Int)] W fun e w' =>
      e = .returned (.tuple #[]) ∧ W.grownBy w' (some blk) ∧ St w0 blk n enc (siftDown lt hi first lo d) w' := by
  have H0 := hide (In.start (lb := lb) (sf := sf) (sb := sb) hs C.blt)
  have hn : n ≤ 4096 := C.small
  have HC := hide C
  clear hs C
  go_enter Yba.func42, Yba.ntmps42
  go_wp2
  go_loopw [8] (fun v8 wr => ∃ (r : Nat) (dk : Array Nat), v8 = .int .i64 r ∧ r ≤ 4096 ∧ Hid (In w0 blk n enc lb sf sb W W.heap.size dk wr ∧ siftDown lt hi first r dk = siftDown lt hi first lo d)) (fun v8 _ => hi - (intOf v8).toNat)
  case atStart => exact ⟨lo, d, rfl, hlo, unhide H0, rfl⟩
  case round =>
    obtain ⟨r, dk, rfl, hr, HR⟩ := hrel
    have c0 := HR.out.1.c0
    by_cases h1 : hi ≤ 2 * r + 1
    · have HE := hide (sd_stop lt hi first r dk h1)
      go_wp2
      go_end0
      refine ⟨rfl, HR.out.1.gr, ?_⟩
      have := HR.out.1.st
      rw [← HR.out.2, unhide HE]; exact this
    · have h1' : 2 * r + 1 < hi := by omega
      obtain ⟨c, hc⟩ : ∃ c, child lt hi first r dk = c := ⟨_, rfl⟩
      have hch := child_lt lt hi first r dk h1'
      rw [hc] at hch
      have HI := hide HR.out.1
      have HS := hide HR.out.2
      clear HR
      cases hb2 : lt dk[first + r]! dk[first + c]! with
      | false =>
        have HE := hide (sd_end lt hi first r dk h1' c hc hb2)
        by_cases h2 : 2 * r + 2 < hi
        · cases hb1 : lt dk[first + (2 * r + 1)]! dk[first + (2 * r + 1) + 1]! with
          | true =>
            have ec : c = 2 * r + 2 := by rw [← hc]; unfold child; rw [if_pos ⟨h2, hb1⟩]
            subst ec
            have B1 := hide hb1
            have B2 := hide hb2
            clear hb1 hb2 hc
            go_wp2_with fail
            refine ((unhide HC).lessB (unhide HI) _ _ true (unhide B1) _ _ (by omega) (by omega) (by omega) (by omega)).mono ?_
            rintro e w1 ⟨rfl, hin1⟩
            have c0 := hin1.c0
            go_wp2_with fail
            refine ((unhide HC).lessB hin1 _ _ false (unhide B2) _ _ (by omega) (by omega) (by omega) (by omega)).mono ?_
            rintro e w2 ⟨rfl, hin2⟩
            go_wp2
            refine bodyPost_ret (results_none rfl _ _ _) rfl ?_
            refine ⟨rfl, hin2.gr, ?_⟩
            rw [← unhide HS, unhide HE]; exact hin2.st
          | false =>
            have ec : c = 2 * r + 1 := by rw [← hc]; unfold child; rw [if_neg (by rw [hb1]; simp)]
            subst ec
            have B1 := hide hb1
            have B2 := hide hb2
            clear hb1 hb2 hc
            go_wp2_with fail
            refine ((unhide HC).lessB (unhide HI) _ _ false (unhide B1) _ _ (by omega) (by omega) (by omega) (by omega)).mono ?_
            rintro e w1 ⟨rfl, hin1⟩
            have c0 := hin1.c0
            go_wp2_with fail
            refine ((unhide HC).lessB hin1 _ _ false (unhide B2) _ _ (by omega) (by omega) (by omega) (by omega)).mono ?_
            rintro e w2 ⟨rfl, hin2⟩
            go_wp2
            refine bodyPost_ret (results_none rfl _ _ _) rfl ?_
            refine ⟨rfl, hin2.gr, ?_⟩
            rw [← unhide HS, unhide HE]; exact hin2.st
        · have ec : c = 2 * r + 1 := by rw [← hc]; unfold child; rw [if_neg (by intro h; exact h2 h.1)]
          subst ec
          have B2 := hide hb2
          clear hb2 hc
          go_wp2_with fail
          refine ((unhide HC).lessB (unhide HI) _ _ false (unhide B2) _ _ (by omega) (by omega) (by omega) (by omega)).mono ?_
          rintro e w2 ⟨rfl, hin2⟩
          go_wp2
          refine bodyPost_ret (results_none rfl _ _ _) rfl ?_
          refine ⟨rfl, hin2.gr, ?_⟩
          rw [← unhide HS, unhide HE]; exact hin2.st
      | true =>
        have HE := hide (sd_go lt hi first r dk h1' c hc hb2)
        by_cases h2 : 2 * r + 2 < hi
        · cases hb1 : lt dk[first + (2 * r + 1)]! dk[first + (2 * r + 1) + 1]! with
          | true =>
            have ec : c = 2 * r + 2 := by rw [← hc]; unfold child; rw [if_pos ⟨h2, hb1⟩]
            subst ec
            have B1 := hide hb1
            have B2 := hide hb2
            clear hb1 hb2 hc
            go_wp2_with fail
            refine ((unhide HC).lessB (unhide HI) _ _ true (unhide B1) _ _ (by omega) (by omega) (by omega) (by omega)).mono ?_
            rintro e w1 ⟨rfl, hin1⟩
            have c0 := hin1.c0
            go_wp2_with fail
            refine ((unhide HC).lessB hin1 _ _ true (unhide B2) _ _ (by omega) (by omega) (by omega) (by omega)).mono ?_
            rintro e w2 ⟨rfl, hin2⟩
            have c1 := hin2.c1
            obtain ⟨w3, hsw, hin3⟩ := (unhide HC).swapI hin2 (first + r) (first + (2 * r + 2)) ((first : Int) + r) ((first : Int) + (2 * (r : Int) + 1 + 1)) (by omega) (by omega) (by omega) (by omega)
            have HN := hide hin3
            clear hin1 hin2 hin3
            go_wp2
            go_roundw
            case rel => exact ⟨2 * r + 2, _, by congr 1 <;> omega, by omega, unhide HN, by rw [← unhide HS, unhide HE]⟩
            case measure => simp [intOf]; omega
          | false =>
            have ec : c = 2 * r + 1 := by rw [← hc]; unfold child; rw [if_neg (by rw [hb1]; simp)]
            subst ec
            have B1 := hide hb1
            have B2 := hide hb2
            clear hb1 hb2 hc
            go_wp2_with fail
            refine ((unhide HC).lessB (unhide HI) _ _ false (unhide B1) _ _ (by omega) (by omega) (by omega) (by omega)).mono ?_
            rintro e w1 ⟨rfl, hin1⟩
            have c0 := hin1.c0
            go_wp2_with fail
            refine ((unhide HC).lessB hin1 _ _ true (unhide B2) _ _ (by omega) (by omega) (by omega) (by omega)).mono ?_
            rintro e w2 ⟨rfl, hin2⟩
            have c1 := hin2.c1
            obtain ⟨w3, hsw, hin3⟩ := (unhide HC).swapI hin2 (first + r) (first + (2 * r + 1)) ((first : Int) + r) ((first : Int) + (2 * (r : Int) + 1)) (by omega) (by omega) (by omega) (by omega)
            have HN := hide hin3
            clear hin1 hin2 hin3
            go_wp2
            go_roundw
            case rel => exact ⟨2 * r + 1, _, by congr 1 <;> omega, by omega, unhide HN, by rw [← unhide HS, unhide HE]⟩
            case measure => simp [intOf]; omega
        · have ec : c = 2 * r + 1 := by rw [← hc]; unfold child; rw [if_neg (by intro h; exact h2 h.1)]
          subst ec
          have B2 := hide hb2
          clear hb2 hc
          go_wp2_with fail
          refine ((unhide HC).lessB (unhide HI) _ _ true (unhide B2) _ _ (by omega) (by omega) (by omega) (by omega)).mono ?_
          rintro e w2 ⟨rfl, hin2⟩
          have c1 := hin2.c1
          obtain ⟨w3, hsw, hin3⟩ := (unhide HC).swapI hin2 (first + r) (first + (2 * r + 1)) ((first : Int) + r) ((first : Int) + (2 * (r : Int) + 1)) (by omega) (by omega) (by omega) (by omega)
          have HN := hide hin3
          clear hin2 hin3
          go_wp2
          go_roundw
          case rel => exact ⟨2 * r + 1, _, by congr 1 <;> omega, by omega, unhide HN, by rw [← unhide HS, unhide HE]⟩
          case measure => simp [intOf]; omega
theorem sift_I {w0 W : World} {blk n : Nat} {enc : Nat → Value} {lt : Nat → Nat → Bool} {lb sb : Array Value} {sf : Nat} {d : Array Nat} (C : Ctx w0 blk n enc lt lb sf sb) (hs : St w0 blk n enc d W) (lo hi first : Nat) (L H F : Int) (hL : L = lo) (hH : H = hi) (hF : F = first) (hb : first + hi ≤ n) (hlo : lo ≤ 4096) :
    Calls Yba.prog 42 #[.agg #[.func (.func 15) #[] lb, .func (.func sf) #[] sb], .int .i64 L, .int .i64 H, .int .i64 F] W fun e w' =>
      e = .returned (.tuple #[]) ∧ W.grownBy w' (some blk) ∧ St w0 blk n enc (siftDown lt hi first lo d) w' := by
  subst hL hH hF; exact sift_any C hs lo hi first hb hlo
end Go.Proofs.Ybulkdadi.Srt
