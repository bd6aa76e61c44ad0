/-
  LawS5075BWalksCycle (3): THE WALK.
-/
import Derived.Test.YbulkdabsFmtWords
import Derived.Deep.QuietTactic
import Derived.BigQuiet
import Derived.LaidEql
import Derived.Deep.CutRange
import Derived.Deep.Light
import Derived.Deep.DeepCutAuto
namespace Go.Proofs.YbulkdabsFmt.Fn
open Go.ChangeShapes Go.WideShapes Go.ChangeAt Go.RowKit Go.Maps Go.Proofs.YbulkdabsFmt.Nm Go.Proofs.YbulkdabsFmt.Mp Go.Proofs.YbulkdabsFmt.Rw Go.Proofs.YbulkdabsFmt.Cy

theorem S3.upd {w1 : World} {k i : Nat} {W : Nat → Bool} {c : Nat → Int} {wb : World} (h : S3 w1 k (i + 1) i W c wb) (hi : i ≤ 300) (hc : 0 ≤ c i ∧ c i ≤ 256) {cv : Int} (hcv : c i = cv) :
    ∃ w', (Instr.mapUpdate 28 (.map (some (w1.heap.size + 2))) (.string (nm i)) (.int .i64 cv)).run Ybaf.prog wb.drew = .ok () w' ∧ S3 w1 k (i + 1) (i + 1) W c w' := by
  subst hcv
  obtain ⟨w', hrun, hm, hg⟩ := h.mp.drew.update (val := .int .i64 (c i)) kd Ybaf.underlying28 (Nat.lt_of_le_of_lt hi (by decide)) (WideMaps.keyOf_string_mk Ybaf.underlying9 (show (nm i).size ≤ maxLen by show 3 ≤ maxLen; decide)) (plainElem_int Ybaf.underlying3 (by simp [Lit.wf, IntKind.min, IntKind.max, IntKind.signed, IntKind.bits]; omega))
  exact ⟨w', hrun, h.map hm ⟨hg.os, hg.tape, hg.output, hg.size, hg.block⟩⟩
theorem cn_bound {N NF : Nat} {Fl : Nat → Bool} {NC : Nat} {Ct : Nat → Int} (h : ∀ i, 0 ≤ Ct i ∧ Ct i ≤ 255) (i : Nat) : 0 ≤ cn N NF Fl NC Ct i ∧ cn N NF Fl NC Ct i ≤ 256 := by
  have := h i
  unfold cn
  split <;> (try split) <;> omega

theorem W_facts {N NF : Nat} {Fl : Nat → Bool} {NC : Nat} {Ct : Nat → Int} (h : ∀ i, 0 ≤ Ct i ∧ Ct i ≤ 255) (j : Nat) : (0 < cn N NF Fl NC Ct j ↔ isW N NF Fl j = true) ∧ 0 ≤ cn N NF Fl NC Ct j ∧ cn N NF Fl NC Ct j ≤ 256 := by
  refine ⟨?_, cn_bound h j⟩
  have := h j
  unfold cn
  cases isW N NF Fl j with
  | true => simp only [if_true, iff_true]; split <;> omega
  | false => simp
theorem S4.start (w3 : World) (k : Nat) (W : Nat → Bool) (C30 C31 C32 : Array Value) (h30 : ∀ j, j < k → C30[j]? = some (.pointer none)) (h31 : ∀ j, j < k → C31[j]? = some (.pointer none)) (h32 : ∀ j, j < k → C32[j]? = some (.slice none 0 0)) :
    S4 w3 k 0 0 W (fun _ => default) (((((w3.alloc (.cells #[.string ⟨#[97, 48]⟩, .string ⟨#[97, 49]⟩] 9)).alloc (.map #[] 0)).alloc (.cells C30 36)).alloc (.cells C31 40)).alloc (.cells C32 25)) := by
  have s0 : (w3.alloc (.cells #[.string ⟨#[97, 48]⟩, .string ⟨#[97, 49]⟩] 9)).heap.size = w3.heap.size + 1 := by simp
  have s1 : ((w3.alloc (.cells #[.string ⟨#[97, 48]⟩, .string ⟨#[97, 49]⟩] 9)).alloc (.map #[] 0)).heap.size = w3.heap.size + 2 := by simp
  have s2 : (((w3.alloc (.cells #[.string ⟨#[97, 48]⟩, .string ⟨#[97, 49]⟩] 9)).alloc (.map #[] 0)).alloc (.cells C30 36)).heap.size = w3.heap.size + 3 := by simp
  have s3 : ((((w3.alloc (.cells #[.string ⟨#[97, 48]⟩, .string ⟨#[97, 49]⟩] 9)).alloc (.map #[] 0)).alloc (.cells C30 36)).alloc (.cells C31 40)).heap.size = w3.heap.size + 4 := by simp
  refine ⟨(((((Below.refl _ _).alloc (Nat.le_refl _) _).alloc (by omega) _).alloc (by omega) _).alloc (by omega) _).alloc (by omega) _, ?_, ?_, ?_, ?_, ?_, fun j hj => by omega⟩
  · refine ((((Row.new w3 _ 9 2 outv (fun j hj => ?_)).alloc _).alloc _).alloc _).alloc _
    match j, hj with
    | 0, _ => rfl
    | 1, _ => rfl
  · have := World.ownsMap_made (w3.alloc (.cells #[.string ⟨#[97, 48]⟩, .string ⟨#[97, 49]⟩] 9)) Ybaf.prog 9 RP
    rw [s0] at this
    exact ((this.alloc _).alloc _).alloc _
  · have := Row.new ((w3.alloc (.cells #[.string ⟨#[97, 48]⟩, .string ⟨#[97, 49]⟩] 9)).alloc (.map #[] 0)) C30 36 k (upto (fun _ => .pointer (some ⟨(default : En).v, 0, none⟩)) (.pointer none) 0) (fun j hj => by rw [h30 j hj, upto_zero])
    rw [s1] at this
    exact (this.alloc _).alloc _
  · have := Row.new (((w3.alloc (.cells #[.string ⟨#[97, 48]⟩, .string ⟨#[97, 49]⟩] 9)).alloc (.map #[] 0)).alloc (.cells C30 36)) C31 40 k (upto (fun _ => .pointer (some ⟨(default : En).f, 0, none⟩)) (.pointer none) 0) (fun j hj => by rw [h31 j hj, upto_zero])
    rw [s2] at this
    exact this.alloc _
  · have := Row.new ((((w3.alloc (.cells #[.string ⟨#[97, 48]⟩, .string ⟨#[97, 49]⟩] 9)).alloc (.map #[] 0)).alloc (.cells C30 36)).alloc (.cells C31 40)) C32 25 k (upto (fun _ => slv (default : En).lb (default : En).rn (default : En).lc) (.slice none 0 0) 0) (fun j hj => by rw [h32 j hj, upto_zero])
    rw [s3] at this
    exact this

theorem own_slice {w : World} {base : Nat} {e : TypeId} {size : Nat} {v : Value} {n : Nat} {xs : List Value} (h : w.ownsRow base e size v n xs) : ∃ ao n c, v = .slice ao n c := by
  rcases h.2 with ⟨rfl, _⟩ | ⟨g, cap, cur, rfl, _⟩
  · exact ⟨_, _, _, rfl⟩
  · exact ⟨_, _, _, rfl⟩
/-- The two appends of one requirement. -/
theorem S5.app {w5 : World} {k : Nat} {qs : List ByteArray} {rs ls : Value} {wr : World} (h : S5 w5 k qs qs rs ls wr) (hq : qs.length ≤ 1024) {p : ByteArray} (hp : Okq k p) :
    ∃ g cap w6, (Builtin.append_ #[33, 33] 33 #[rs, .slice (some ⟨wr.heap.size, 0, none⟩) 1 1]).run Ybaf.prog (wr.alloc (.cells #[.string p, .string ⟨#[]⟩] 35)) = .ok (.slice (some ⟨g, 0, none⟩) (qs.length + 1) cap) w6 ∧ Below w5.heap.size w5 w6 ∧
      ∃ g' cap' w7, (Builtin.append_ #[25, 25] 25 #[ls, .slice (some ⟨w6.heap.size, 0, none⟩) 1 1]).run Ybaf.prog (w6.alloc (.cells #[.string p] 9)) = .ok (.slice (some ⟨g', 0, none⟩) (qs.length + 1) cap') w7 ∧
      S5 w5 k (qs ++ [p]) (qs ++ [p]) (.slice (some ⟨g, 0, none⟩) (qs.length + 1) cap) (.slice (some ⟨g', 0, none⟩) (qs.length + 1) cap') w7 := by
  obtain ⟨i9, hi9, hz0, hz1, hz2⟩ := info_parts info9
  obtain ⟨i35, hi35, hy0, hy1, hy2⟩ := info_parts info35
  have hsz := h.bel.size
  have hmx : qs.length + 1 ≤ maxLen := Nat.le_trans (show qs.length + 1 ≤ 1025 by omega) (by decide)
  obtain ⟨g, cap, w6, hr, ho, hg, hat, hlt⟩ := run_append_lies (P := Ybaf.prog) (wr.alloc (.cells #[.string p, .string ⟨#[]⟩] 35)) 33 33 w5.heap.size 35 i35 (.agg #[.string ⟨#[]⟩, .string ⟨#[]⟩]) 2 32 Ybaf.underlying33 hi35 hy0 hy1 hy2 rfl (by decide) rs qs.length (flat qs) (h.r.alloc _) ⟨wr.heap.size, 0, none⟩ 1 1 [.string p, .string ⟨#[]⟩] rfl
    (fun j u hj => by
      match j, hj with
      | 0, hj => simp at hj; subst hj; simp [Addr.add]
      | 1, hj => simp at hj; subst hj; simp [Addr.add])
    (fun u hu => by simp at hu; rcases hu with rfl | rfl <;> rfl) (by decide) hmx (by omega) (by simp; omega) _ rfl
  have h6 := h.rstep hp ho hg hat
  obtain ⟨g', cap', w7, hr', ho', hg', hat', hlt'⟩ := run_append_lies (P := Ybaf.prog) (w6.alloc (.cells #[.string p] 9)) 25 25 w5.heap.size 9 i9 (.string ⟨#[]⟩) 1 16 Ybaf.underlying25 hi9 hz0 hz1 hz2 rfl (by decide) ls qs.length (strs qs) (h6.l.alloc _) ⟨w6.heap.size, 0, none⟩ 1 1 [.string p] rfl
    (fun j u hj => by
      match j, hj with
      | 0, hj => simp at hj; subst hj; simp [Addr.add])
    (fun u hu => by simp at hu; subst hu; rfl) (by decide) hmx (by omega) (by have := h6.bel.size; simp; omega) _ rfl
  exact ⟨g, cap, w6, hr, h6.bel, g', cap', w7, hr', h6.lstep ho' hg' hat'⟩

theorem outside_ne {s : ByteArray} (h : s.size = 2) (j : Nat) : Lit.string s.data.toList ≠ ky j := fun e => by
  have e1 : s.data.toList = (nm j).data.toList := by simpa [ky] using e
  have e2 := congrArg List.length e1
  have e3 : s.data.toList.length = 2 := by simpa using h
  rw [e3] at e2
  simp [nm] at e2
theorem mkCyc {w1 w3 w4 : World} {N : Nat} {W : Nat → Bool} {c : Nat → Int} {E : Nat → En} (h3 : S3 w1 (N + 1) (N + 1) (N + 1) W c w4) (h4 : S4 w3 (N + 1) (N + 1) (N + 1) W E w4) (hWN : W N = true) (hc : ∀ j, (0 < c j ↔ W j = true) ∧ 0 ≤ c j ∧ c j ≤ 256) (hN : N ≤ 300) :
    Cyc w4 (w1.heap.size + 2) (w3.heap.size + 1) (N + 1) (N + 1) (wD (fun j => .lit (.int .i64 (c j))) (N + 1)) (wD (fun j => pd (E j).f (E j).v) (N + 1)) c (fun j => (E j).f) (fun j => (E j).v) (fun j => (E j).rb) (fun j => (E j).rn) (fun j => (E j).rc) (fun j t => (E j).q t) := by
  have hpos : ∀ i, i < N + 1 → 0 < c i → 0 < (E i).rn := fun i hi hp => by
    obtain ⟨t, ht, _⟩ := (h4.ent i hi).wt ((hc i).1.1 hp)
    omega
  have hsz : ∀ i, i < N + 1 → ∀ t, t < (E i).rn → ((E i).q t).size ≤ 3 := fun i hi t ht => by
    rcases (h4.ent i hi).ok t ht with ⟨i', _, e⟩ | e | e <;> rw [e]
    · show 3 ≤ 3; decide
    · show 2 ≤ 3; decide
    · show 2 ≤ 3; decide
  refine ⟨by omega, h3.mp, h4.mp, fun kl h => wD_key _ h, fun i hi => wD_has _ i _ hi, fun i hi zd => wD_at _ i zd _ (by omega) hi, fun i hi zd => wD_at _ i zd _ (by omega) hi, ⟨N, by omega, (hc N).1.2 hWN⟩, fun i hi => (h4.ent i hi).fhi, fun i hi => (h4.ent i hi).vhi, fun i hi => (h4.ent i hi).cf, fun i hi => (h4.ent i hi).cv0,
    fun i hi hp => ?_, fun i hi hp => ⟨(h4.ent i hi).rn, ((h4.ent i hi).blk (hpos i hi hp)).1.2⟩, fun i hi hp j hj => ⟨((h4.ent i hi).cq j hj).1, ((h4.ent i hi).cq j hj).2, Nat.le_trans (hsz i hi j hj) (by decide)⟩, fun i hi hp j hj => ?_, fun i hi hp => ?_⟩
  · have h2 := (h4.ent i hi).cv2
    have hp' := hpos i hi hp
    unfold slv at h2
    rw [if_neg (by omega)] at h2
    exact h2
  · rcases (h4.ent i hi).ok j hj with ⟨i', hi', e⟩ | e | e
    · refine ⟨c i', ?_, fun h => ⟨i', hi', h, e⟩⟩
      rw [e]
      exact wD_at _ i' _ _ (by omega) hi'
    · refine ⟨0, ?_, fun h => absurd h (by decide)⟩
      rw [e]
      exact atKey_of_not_has (wD_not _ _ _ (fun j _ => outside_ne (by rfl) j)) _
    · refine ⟨0, ?_, fun h => absurd h (by decide)⟩
      rw [e]
      exact atKey_of_not_has (wD_not _ _ _ (fun j _ => outside_ne (by rfl) j)) _
  · obtain ⟨t, ht, i', hi', hW, e⟩ := (h4.ent i hi).wt ((hc i).1.1 hp)
    exact ⟨t, ht, i', hi', (hc i').1.2 hW, e⟩

theorem S3.look {w1 : World} {k : Nat} {W : Nat → Bool} {c : Nat → Int} {wr : World} (h : S3 w1 k k k W c wr) (hk : k ≤ 301) (i : Nat) (hi : i < k) :
    (Instr.lookup 28 (.map (some (w1.heap.size + 2))) (.string (nm i)) true).run Ybaf.prog wr = .ok (.tuple #[.int .i64 (c i), .bool true]) wr := by
  obtain ⟨v, ps, hrun, hv⟩ := h.mp.look_ok kd Ybaf.underlying28 (zero3 wr) (zd := .lit (.int .i64 0)) (zp := []) (plainElem_int Ybaf.underlying3 (by decide)) (key := .string (nm i)) (kl := ky i) (WideMaps.keyOf_string_mk Ybaf.underlying9 (show (nm i).size ≤ maxLen by show 3 ≤ maxLen; decide))
  rw [wD_at _ i _ k hk hi] at hv
  obtain ⟨a, e1, e2, _⟩ := plainElem_int_inv Ybaf.underlying3 hv
  simp only [Prod.mk.injEq, DataW.lit.injEq, Lit.int.injEq, true_and] at e2
  rw [hrun, e1, ← e2.1, wD_has _ i k hi]
theorem S4.look {w3 : World} {k : Nat} {W : Nat → Bool} {E : Nat → En} {wr : World} (h : S4 w3 k k k W E wr) (hk : k ≤ 301) (i : Nat) (hi : i < k) :
    (Instr.lookup 29 (.map (some (w3.heap.size + 1))) (.string (nm i)) true).run Ybaf.prog wr = .ok (.tuple #[.agg #[.pointer (some ⟨(E i).f, 0, none⟩), .pointer (some ⟨(E i).v, 0, none⟩), .map none, .map none], .bool true]) wr := by
  obtain ⟨v, ps, hrun, hv⟩ := h.mp.look_ok kd Ybaf.underlying29 (zero52 wr) (zd := .nil) (zp := []) rfl (key := .string (nm i)) (kl := ky i) (WideMaps.keyOf_string_mk Ybaf.underlying9 (show (nm i).size ≤ maxLen by show 3 ≤ maxLen; decide))
  rw [wD_at _ i _ k hk hi] at hv
  rw [hrun, RP_inv hv, wD_has _ i k hi]
  rfl
theorem slv_form (b n c : Nat) : ∃ ao c', slv b n c = .slice ao n c' ∧ (0 < n → ao = some ⟨b, 0, none⟩) := by
  unfold slv
  by_cases h : n = 0
  · subst h; exact ⟨none, 0, by simp, fun h => by omega⟩
  · exact ⟨some ⟨b, 0, none⟩, c, by simp [h], fun _ => rfl⟩
noncomputable def p39 : TypeInfo := (Ybaf.prog.info? 39).get (by kernel_rfl)
theorem p39_eq : Ybaf.prog.info? 39 = some p39 := by kernel_rfl
noncomputable def p47 : TypeInfo := (Ybaf.prog.info? 47).get (by kernel_rfl)
theorem p47_eq : Ybaf.prog.info? 47 = some p47 := by kernel_rfl
theorem neq36 (a : Addr) (w : World) : (binOp .neq 36 (.pointer (some a)) (.pointer (some a))).run Ybaf.prog w = .ok (.bool false) w := by
  have h : ∀ d, (Op.equalIn (d + 1) 36 (.pointer (some a)) (.pointer (some a))).run Ybaf.prog w = .ok true w := fun d => by
    simp [Op.equalIn, run_underlying Ybaf.underlying36, sizeOf, typeInfo, p39_eq, run_sameAddr_same]
  simp only [binOp]
  simp [Op.equal, Op.maxDepth, h 9999]
theorem neq40 (a : Addr) (w : World) : (binOp .neq 40 (.pointer (some a)) (.pointer (some a))).run Ybaf.prog w = .ok (.bool false) w := by
  have h : ∀ d, (Op.equalIn (d + 1) 40 (.pointer (some a)) (.pointer (some a))).run Ybaf.prog w = .ok true w := fun d => by
    simp [Op.equalIn, run_underlying Ybaf.underlying40, sizeOf, typeInfo, p47_eq, run_sameAddr_same]
  simp only [binOp]
  simp [Op.equal, Op.maxDepth, h 9999]

attribute [local irreducible] wpQuiet
set_option maxHeartbeats 4000000 in
set_option maxRecDepth 100000 in
theorem fn_any (FF : Stop.Interp) (w : World) (a0 : Option Addr) (N cap0 : Nat) (A : Nat → Option Addr) (L C : Nat → Nat) (U : Nat → Nat → Int) (a1 : Option Addr) (NF cap1 : Nat) (Fl : Nat → Bool) (a2 : Option Addr) (NC cap2 : Nat) (Ct : Nat → Int)
    (hF : FF.answers w.tape) (hI : Inp w a0 N A L C U a1 NF Fl a2 NC Ct) :
    Calls Ybaf.prog 3 #[.slice a0 N cap0, .slice a1 NF cap1, .slice a2 NC cap2] w fun e w' => e = .returned (.bool true) ∧ Below w.heap.size w w' := by
  have HI := hide hI
  have HF := hide hF
  clear hI hF
  go_enter Ybaf.func3, Ybaf.ntmps3
  by_cases hN : N ≤ 300
  · go_wp2
    go_loopw [43] (fun i wr => ∃ j : Nat, j ≤ N ∧ i = .int .i64 j ∧ wr = w ∧ Hid (∀ r, r < j → L r ≤ 1024)) (fun i _ => N - (intOf i).toNat)
    case atStart => exact ⟨0, Nat.zero_le _, rfl, rfl, fun r h => by omega⟩
    case round =>
      obtain ⟨j, hj, rfl, rfl, HL⟩ := hrel
      by_cases hjt : j < N
      · obtain ⟨b0, o0, rfl, hb0, hc0⟩ := (unhide HI).r0 (by omega)
        have c0 := hc0 j hjt
        clear hc0
        by_cases hlj : L j ≤ 1024
        · go_wp2
          go_roundw
          case rel => exact ⟨j + 1, hjt, by go_num, trivial, fun r hr => by
            by_cases e : r = j
            · subst e; exact hlj
            · exact unhide HL r (by omega)⟩
          case measure => simp [intOf] <;> omega
        · go_wp2
          go_ret
          exact ⟨rfl, Below.refl _ _⟩
      · have HL1 : Hid (∀ r, r < N → L r ≤ 1024) := fun r hr => unhide HL r (by omega)
        clear HL
        obtain ⟨w0, hw0⟩ : ∃ w0, w0 = wr := ⟨_, rfl⟩
        subst hw0
        obtain ⟨C1, hC1, m25⟩ := mk25 (N + 1) (by omega)
        obtain ⟨C2, hC2, m23⟩ := mk23 (N + 1) (by omega)
        obtain ⟨C3, hC3, m27⟩ := mk27 (N + 1) (by omega)
        push_cast at m25 m23 m27
        have H2 : Hid (Below w0.heap.size w0 (w0.alloc (.cells C1 9)) ∧ Row (w0.alloc (.cells C1 9)) w0.heap.size (N + 1) (upto nmv (.string ⟨#[]⟩) 0)) :=
          ⟨(Below.refl _ _).alloc (Nat.le_refl _) _, Row.new _ _ _ _ _ (fun j hj => by rw [hC1 j hj, upto_zero])⟩
        have HC2 := hide hC2
        have HC3 := hide hC3
        clear hC1 hC2 hC3
        go_wp2
        go_loopw [10] (fun ii w2 => ∃ i : Nat, i ≤ N + 1 ∧ ii = .int .i64 i ∧ Hid (Below w0.heap.size w0 w2 ∧ Row w2 w0.heap.size (N + 1) (upto nmv (.string ⟨#[]⟩) i))) (fun ii _ => N + 1 - (intOf ii).toNat)
        case atStart => exact ⟨0, Nat.zero_le _, rfl, H2⟩
        case round =>
          clear H2 m25 hj hjt
          obtain ⟨i, hi, rfl, H2⟩ := hrel
          by_cases hit : i < N + 1
          · have HNM := hide (name_any i (by omega) wr)
            go_wp2_with fail
            refine (unhide HNM).mono ?_
            rintro e w2 ⟨rfl, hb2⟩
            have r2 := (unhide H2).2.below hb2
            have x2 := r2.cell i hit
            have f2 := r2.froz i hit
            have HB2 := hide hb2
            have HR2 := hide r2
            clear hb2 r2 HNM
            unfold upto at x2
            go_wp2
            go_roundw
            case rel => exact ⟨i + 1, by omega, by go_num, ((unhide H2).1.trans ((unhide HB2).mono (unhide H2).1.size)).setCell (Nat.le_refl _) _, ((unhide HR2).set i hit _).ext (fun j _ => upto_step nmv _ i j)⟩
            case measure => simp [intOf] <;> omega
          · obtain ⟨w1, hw1⟩ : ∃ w1, w1 = wr := ⟨_, rfl⟩
            subst hw1
            have H21 : Hid (Below w0.heap.size w0 w1) := (unhide H2).1
            have HNR : Hid (Row w1 w0.heap.size (N + 1) nmv) := (unhide H2).2.ext (fun j hj => upto_all _ _ (by omega))
            clear H2
            have hmk : (Instr.makeMap 28 none).run Ybaf.prog ((w1.alloc (.cells C2 4)).alloc (.cells C3 3)) = .ok (.map (some ((w1.alloc (.cells C2 4)).alloc (.cells C3 3)).heap.size)) (((w1.alloc (.cells C2 4)).alloc (.cells C3 3)).alloc (.map #[] 0)) := run_makeMap _ _
            have H3 : Hid (S3 w1 (N + 1) 0 0 (isW N NF Fl) (cn N NF Fl NC Ct) (((w1.alloc (.cells C2 4)).alloc (.cells C3 3)).alloc (.map #[] 0))) := by
              refine ⟨(((Below.refl _ _).alloc (Nat.le_refl _) _).alloc (by simp) _).alloc (by simp; omega) _, ((Row.new w1 C2 4 (N + 1) _ (fun j hj => by rw [unhide HC2 j hj, upto_zero])).alloc _).alloc _, ?_, ?_⟩
              · have := Row.new (w1.alloc (.cells C2 4)) C3 3 (N + 1) (upto (fun j => .int .i64 (cn N NF Fl NC Ct j)) (.int .i64 0) 0) (fun j hj => by rw [unhide HC3 j hj, upto_zero])
                simpa using this.alloc (.map #[] 0)
              · have := World.ownsMap_made ((w1.alloc (.cells C2 4)).alloc (.cells C3 3)) Ybaf.prog 9 (plainElem (H := Unit) Ybaf.prog 3)
                rw [show ((w1.alloc (.cells C2 4)).alloc (.cells C3 3)).heap.size = w1.heap.size + 2 by simp] at this
                exact this
            have hf1 : (Instr.makeMap 28 none).run Ybaf.prog ((w1.alloc (.cells C2 4)).alloc (.cells C3 3)) = .ok (.map (some (w1.heap.size + 2))) (((w1.alloc (.cells C2 4)).alloc (.cells C3 3)).alloc (.map #[] 0)) := by simpa using hmk
            clear hmk HC2 HC3
            go_wp2
            go_loopw [14] (fun ii wr => ∃ i : Nat, i ≤ N + 1 ∧ ii = .int .i64 i ∧ Hid (S3 w1 (N + 1) i i (isW N NF Fl) (cn N NF Fl NC Ct) wr)) (fun ii _ => N + 1 - (intOf ii).toNat)
            case atStart => exact ⟨0, Nat.zero_le _, rfl, H3⟩
            case round =>
              clear H3 hf1 hi hit
              obtain ⟨i, hi, rfl, H3⟩ := hrel
              by_cases hit : i < N + 1
              · as_aux_lemma =>
                  have hw1 := (unhide H3).bel.size
                  have hnb : w0.heap.size < w1.heap.size := (unhide HNR).lt
                  have hnr := (unhide HNR).belowAt (unhide H3).bel hnb
                  have xN := hnr.cell i hit
                  have xW := (unhide H3).rW.cell i hit
                  have fW := (unhide H3).rW.froz i hit
                  have xC := (unhide H3).rC.cell i hit
                  have fC := (unhide H3).rC.froz i hit
                  unfold upto at xW xC
                  unfold nmv at xN
                  simp only [Nat.lt_irrefl, if_false] at xW xC
                  have nn : w0.heap.size ≠ w1.heap.size := by omega
                  have nn1 : w0.heap.size ≠ w1.heap.size + 1 := by omega
                  have nn2 : w1.heap.size ≠ w0.heap.size := by omega
                  have nn3 : w1.heap.size + 1 ≠ w0.heap.size := by omega
                  clear hnr
                  by_cases hiN : i = N
                  · have hiN' : N = i := hiN.symm
                    subst hiN'
                    have HWi : Hid (isW N NF Fl N = true) := by show isW N NF Fl N = true; simp [isW]
                    clear hiN hi hit
                    have xs := (unhide H3).both (i := N) (by omega)
                    by_cases hNC : N < NC
                    · obtain ⟨b2, o2, rfl, hb2, hc2⟩ := (unhide HI).ct (by omega)
                      have xct := hc2 N hNC
                      have hct := (unhide HI).cb N
                      have xct1 := ((unhide H3).bel.cell (p := ⟨b2, _, none⟩) (by show b2 < _; omega)).trans (((unhide H21).cell (p := ⟨b2, _, none⟩) hb2).trans xct)
                      have HCN : Hid (cn N NF Fl NC Ct N = 1 + Ct N) := by show cn N NF Fl NC Ct N = 1 + Ct N; simp [cn, unhide HWi, hNC]
                      rw [unhide HWi, unhide HCN] at xs
                      clear hc2 xct
                      obtain ⟨w4, hupd, h4⟩ := S3.upd xs (by omega) (cn_bound (unhide HI).cb N) (show _ = 1 + Ct N from unhide HCN)
                      have H4 := hide h4
                      clear h4 H3 xs
                      go_wp2
                      go_region
                      go_wp2
                      go_roundw
                      case rel => exact ⟨N + 1, by omega, by go_num, unhide H4⟩
                      case measure => simp [intOf] <;> omega
                    · have HCN : Hid (cn N NF Fl NC Ct N = 1) := by show cn N NF Fl NC Ct N = 1; simp [cn, unhide HWi, hNC]
                      rw [unhide HWi, unhide HCN] at xs
                      obtain ⟨w4, hupd, h4⟩ := S3.upd xs (by omega) (cn_bound (unhide HI).cb N) (show _ = 1 from unhide HCN)
                      have H4 := hide h4
                      clear h4 H3 xs
                      go_wp2
                      go_region
                      go_wp2
                      go_roundw
                      case rel => exact ⟨N + 1, by omega, by go_num, unhide H4⟩
                      case measure => simp [intOf] <;> omega
                  · by_cases hNF : i < NF
                    · obtain ⟨b1, o1, rfl, hb1, hc1⟩ := (unhide HI).fl (by omega)
                      have xfl := hc1 i hNF
                      have xfl1 := ((unhide H3).bel.cell (p := ⟨b1, _, none⟩) (by show b1 < _; omega)).trans (((unhide H21).cell (p := ⟨b1, _, none⟩) hb1).trans xfl)
                      clear hc1 xfl
                      cases hfl : Fl i with
                      | true =>
                        rw [hfl] at xfl1
                        have HWi : Hid (isW N NF Fl i = true) := by show isW N NF Fl i = true; simp [isW, hNF, hfl]
                        clear hfl
                        have xs := (unhide H3).both (i := i) (by omega)
                        by_cases hNC : i < NC
                        · obtain ⟨b2, o2, rfl, hb2, hc2⟩ := (unhide HI).ct (by omega)
                          have xct := hc2 i hNC
                          have hct := (unhide HI).cb i
                          have xct1 := ((unhide H3).bel.cell (p := ⟨b2, _, none⟩) (by show b2 < _; omega)).trans (((unhide H21).cell (p := ⟨b2, _, none⟩) hb2).trans xct)
                          have HCN : Hid (cn N NF Fl NC Ct i = 1 + Ct i) := by show cn N NF Fl NC Ct i = 1 + Ct i; simp [cn, unhide HWi, hNC]
                          rw [unhide HWi, unhide HCN] at xs
                          clear hc2 xct
                          obtain ⟨w4, hupd, h4⟩ := S3.upd xs (by omega) (cn_bound (unhide HI).cb i) (show _ = 1 + Ct i from unhide HCN)
                          have H4 := hide h4
                          clear h4 H3 xs
                          go_wp2
                          go_region
                          go_wp2
                          go_roundw
                          case rel => exact ⟨i + 1, by omega, by go_num, unhide H4⟩
                          case measure => simp [intOf] <;> omega
                        · have HCN : Hid (cn N NF Fl NC Ct i = 1) := by show cn N NF Fl NC Ct i = 1; simp [cn, unhide HWi, hNC]
                          rw [unhide HWi, unhide HCN] at xs
                          obtain ⟨w4, hupd, h4⟩ := S3.upd xs (by omega) (cn_bound (unhide HI).cb i) (show _ = 1 from unhide HCN)
                          have H4 := hide h4
                          clear h4 H3 xs
                          go_wp2
                          go_region
                          go_wp2
                          go_roundw
                          case rel => exact ⟨i + 1, by omega, by go_num, unhide H4⟩
                          case measure => simp [intOf] <;> omega
                      | false =>
                        rw [hfl] at xfl1
                        have HWi : Hid (isW N NF Fl i = false) := by show isW N NF Fl i = false; simp [isW, hiN, hfl]
                        clear hfl
                        have HCN : Hid (cn N NF Fl NC Ct i = 0) := by show cn N NF Fl NC Ct i = 0; simp [cn, unhide HWi]
                        have xs := (unhide H3).one (i := i) (by omega) (unhide HCN)
                        rw [unhide HWi] at xs
                        obtain ⟨w4, hupd, h4⟩ := S3.upd xs (by omega) (cn_bound (unhide HI).cb i) (show _ = 0 from unhide HCN)
                        have H4 := hide h4
                        clear h4 H3 xs
                        go_wp2
                        go_region
                        go_wp2
                        go_roundw
                        case rel => exact ⟨i + 1, by omega, by go_num, unhide H4⟩
                        case measure => simp [intOf] <;> omega
                    · have HWi : Hid (isW N NF Fl i = false) := by show isW N NF Fl i = false; simp [isW, hiN, hNF]
                      have HCN : Hid (cn N NF Fl NC Ct i = 0) := by show cn N NF Fl NC Ct i = 0; simp [cn, unhide HWi]
                      have xs := (unhide H3).one (i := i) (by omega) (unhide HCN)
                      rw [unhide HWi] at xs
                      obtain ⟨w4, hupd, h4⟩ := S3.upd xs (by omega) (cn_bound (unhide HI).cb i) (show _ = 0 from unhide HCN)
                      have H4 := hide h4
                      clear h4 H3 xs
                      go_wp2
                      go_region
                      go_wp2
                      go_roundw
                      case rel => exact ⟨i + 1, by omega, by go_num, unhide H4⟩
                      case measure => simp [intOf] <;> omega
              · obtain ⟨w3, hw3⟩ : ∃ w3, w3 = wr := ⟨_, rfl⟩
                subst hw3
                have HX : Hid (∃ (W : Nat → Bool) (c : Nat → Int), S3 w1 (N + 1) (N + 1) (N + 1) W c w3 ∧ W N = true ∧ ∀ j, (0 < c j ↔ W j = true) ∧ 0 ≤ c j ∧ c j ≤ 256) := by
                  refine ⟨isW N NF Fl, cn N NF Fl NC Ct, ?_, by simp [isW], W_facts (unhide HI).cb⟩
                  have ei : i = N + 1 := by omega
                  have h := unhide H3
                  rw [ei] at h
                  exact h
                obtain ⟨W, c, h3, hWN, hcW⟩ := unhide HX
                have H3K := hide h3
                have HWN := hide hWN
                have HCW := hide hcW
                clear HX h3 hWN hcW H3 hi
                obtain ⟨C30, hC30, m30⟩ := mk30 (N + 1) (by omega)
                obtain ⟨C31, hC31, m31⟩ := mk31 (N + 1) (by omega)
                obtain ⟨C32, hC32, m32⟩ := mk32 (N + 1) (by omega)
                push_cast at m30 m31 m32
                have hmk : (Instr.makeMap 29 none).run Ybaf.prog (w3.alloc (.cells #[.string ⟨#[97, 48]⟩, .string ⟨#[97, 49]⟩] 9)) = .ok (.map (some (w3.heap.size + 1))) ((w3.alloc (.cells #[.string ⟨#[97, 48]⟩, .string ⟨#[97, 49]⟩] 9)).alloc (.map #[] 0)) := by
                  have := run_makeMap (P := Ybaf.prog) 29 (w3.alloc (.cells #[.string ⟨#[97, 48]⟩, .string ⟨#[97, 49]⟩] 9))
                  simpa using this
                have H4 := hide (S4.start w3 (N + 1) W C30 C31 C32 hC30 hC31 hC32)
                clear hC30 hC31 hC32 m23 m27
                go_wp2
                rw [show w3.heap.size + 1 + 1 = w3.heap.size + 2 from rfl, show w3.heap.size + 2 + 1 = w3.heap.size + 3 from rfl, show w3.heap.size + 3 + 1 = w3.heap.size + 4 from rfl]
                go_loopw [21] (fun ii w4 => ∃ (i : Nat) (E : Nat → En), i ≤ N + 1 ∧ ii = .int .i64 i ∧ Hid (S4 w3 (N + 1) i i W E w4)) (fun ii _ => N + 1 - (intOf ii).toNat)
                case atStart => exact ⟨0, _, Nat.zero_le _, rfl, H4⟩
                case round =>
                  clear H4 m30 m31 m32 hmk hit
                  obtain ⟨i, E, hi, rfl, H4⟩ := hrel
                  obtain ⟨w4, hw4⟩ : ∃ w4, w4 = wr := ⟨_, rfl⟩
                  subst hw4
                  have hs01 : w0.heap.size < w1.heap.size := (unhide HNR).lt
                  have hs13 : w1.heap.size + 2 < w3.heap.size := (unhide H3K).mp.lt
                  have hs34 : w3.heap.size + 5 ≤ w4.heap.size := (unhide H4).rl.lt
                  have HB04 : Hid (Below w0.heap.size w0 w4) := (unhide H21).trans (((unhide H3K).bel.trans ((unhide H4).bel.mono (by omega))).mono (by omega))
                  have HNM : Hid (∀ w5, Below w4.heap.size w4 w5 → Row w5 w0.heap.size (N + 1) nmv) := fun w5 hb => (((unhide HNR).belowAt (unhide H3K).bel hs01).belowAt (unhide H4).bel (by omega)).below hb
                  have HWR : Hid (∀ w5, Below w4.heap.size w4 w5 → ∀ t, t < N + 1 → w5.cell? ⟨w1.heap.size, t, none⟩ = some (.bool (W t))) := fun w5 hb t ht => by
                    have := (((unhide H3K).rW.belowAt (unhide H4).bel (by omega)).below hb).cell t ht
                    rwa [upto_all _ _ ht] at this
                  by_cases hit : i < N + 1
                  · have hd1 : decide ((i : Int) < (N : Int) + 1) = true := decide_eq_true (by omega)
                    by_cases hiN : i < N
                    · obtain ⟨b0, o0, rfl, hb0, hc0⟩ := (unhide HI).r0 (by omega)
                      have xr := ((unhide HB04).cell (p := ⟨b0, _, none⟩) hb0).trans (hc0 i hiN)
                      have HR1 := hide ((unhide HI).r1 i hiN)
                      have HUB := hide ((unhide HI).ub i)
                      have hLi := unhide HL1 i hiN
                      clear hc0
                      generalize A i = ai at xr HR1
                      generalize L i = li at xr HR1 hLi
                      generalize C i = ci at xr
                      generalize U i = ui at HR1 HUB
                      have H5 : Hid (S5 w4 (N + 1) [] [] (.slice none 0 0) (.slice none 0 0) w4) := S5.start w4 (N + 1)
                      go_wp2
                      go_loopw [22, 23, 147] (fun rs ls jj w5 => ∃ (t : Nat) (qs : List ByteArray), t ≤ li ∧ jj = .int .i64 t ∧ Hid (qs.length = t ∧ S5 w4 (N + 1) qs qs rs ls w5)) (fun _ _ jj _ => li - (intOf jj).toNat)
                      case atStart => exact ⟨0, [], Nat.zero_le _, rfl, rfl, H5⟩
                      case round =>
                        clear H5
                        obtain ⟨t, qs, htl, rfl, H5⟩ := hrel
                        by_cases htt : t < li
                        · as_aux_lemma =>
                            obtain ⟨b1, o1, rfl, hb1, hc1⟩ := unhide HR1 (by omega)
                            have hbel5 := (unhide H5).2.bel
                            have xb := (hbel5.cell (p := ⟨b1, _, none⟩) (by show b1 < _; omega)).trans (((unhide HB04).cell (p := ⟨b1, _, none⟩) hb1).trans (hc1 t htt))
                            have hub := unhide HUB t
                            obtain ⟨un, hun⟩ : ∃ un : Nat, ui t = un := Int.eq_ofNat_of_zero_le hub.1
                            rw [hun] at xb hub
                            have hun255 : un ≤ 255 := by omega
                            obtain ⟨tt, htt2⟩ : ∃ tt, tt = un % (N + 3) := ⟨_, rfl⟩
                            have HEM : Hid (((un : Int)) % ((N : Int) + 1 + 2) = (tt : Int)) := by show ((un : Int)) % ((N : Int) + 1 + 2) = (tt : Int); rw [htt2]; norm_cast
                            have htt3 : tt < N + 3 := by rw [htt2]; exact Nat.mod_lt _ (by omega)
                            have HN5 := hide (unhide HNM wr hbel5)
                            have HO5 := hide ((unhide H4).out.below hbel5)
                            clear hub hun hc1 hbel5 htt2
                            by_cases htn : tt < N + 1
                            · have xN := (unhide HN5).cell tt htn
                              unfold nmv at xN
                              obtain ⟨g, cap, w6, hr6, hb6, g', cap', w7, hr7, h7⟩ := S5.app (p := nm tt) (unhide H5).2 (by have := (unhide H5).1; omega) (Or.inl ⟨tt, htn, rfl⟩)
                              have HB6 := hide hb6
                              have H7 := hide h7
                              clear hb6 h7
                              go_upto_region 43 with fail
                              rw [unhide HEM]
                              go_wp2_with (first | (at_builtin; refine wpList_append_run _ rfl (.tmp 169) (.tmp 172) 33 rfl _ _ _ w6 rfl rfl hr6 ?_) | (at_builtin; refine wpList_append_run _ rfl (.tmp 174) (.tmp 176) 25 rfl _ _ _ w7 rfl rfl hr7 ?_) | go_in)
                              go_roundw
                              case rel => exact ⟨t + 1, qs ++ [nm tt], htt, by go_num, by have := (unhide H5).1; simp [this], unhide H7⟩
                              case measure => simp [intOf] <;> omega
                            · have ho : tt = N + 1 ∨ tt = N + 2 := by omega
                              have xo0 := (unhide HO5).cell 0 (by decide)
                              have xo1 := (unhide HO5).cell 1 (by decide)
                              unfold outv at xo0 xo1
                              simp only [if_true, Nat.one_ne_zero, if_false] at xo0 xo1
                              clear htt3
                              rcases ho with rfl | rfl
                              · push_cast at HEM
                                obtain ⟨g, cap, w6, hr6, hb6, g', cap', w7, hr7, h7⟩ := S5.app (p := ⟨#[97, 48]⟩) (unhide H5).2 (by have := (unhide H5).1; omega) (Or.inr (Or.inl rfl))
                                have HB6 := hide hb6
                                have H7 := hide h7
                                clear hb6 h7
                                go_upto_region 43 with fail
                                rw [unhide HEM]
                                go_wp2_with (first | (at_builtin; refine wpList_append_run _ rfl (.tmp 169) (.tmp 172) 33 rfl _ _ _ w6 rfl rfl hr6 ?_) | (at_builtin; refine wpList_append_run _ rfl (.tmp 174) (.tmp 176) 25 rfl _ _ _ w7 rfl rfl hr7 ?_) | go_in)
                                go_roundw
                                case rel => exact ⟨t + 1, qs ++ [⟨#[97, 48]⟩], htt, by go_num, by have := (unhide H5).1; simp [this], unhide H7⟩
                                case measure => simp [intOf] <;> omega
                              · push_cast at HEM
                                obtain ⟨g, cap, w6, hr6, hb6, g', cap', w7, hr7, h7⟩ := S5.app (p := ⟨#[97, 49]⟩) (unhide H5).2 (by have := (unhide H5).1; omega) (Or.inr (Or.inr rfl))
                                have HB6 := hide hb6
                                have H7 := hide h7
                                clear hb6 h7
                                go_upto_region 43 with fail
                                rw [unhide HEM]
                                go_wp2_with (first | (at_builtin; refine wpList_append_run _ rfl (.tmp 169) (.tmp 172) 33 rfl _ _ _ w6 rfl rfl hr6 ?_) | (at_builtin; refine wpList_append_run _ rfl (.tmp 174) (.tmp 176) 25 rfl _ _ _ w7 rfl rfl hr7 ?_) | go_in)
                                go_roundw
                                case rel => exact ⟨t + 1, qs ++ [⟨#[97, 49]⟩], htt, by go_num, by have := (unhide H5).1; simp [this], unhide H7⟩
                                case measure => simp [intOf] <;> omega
                        · obtain ⟨w5, hw5⟩ : ∃ w5, w5 = wr := ⟨_, rfl⟩
                          subst hw5
                          have hb45 := (unhide H5).2.bel
                          have xW := unhide HWR w5 hb45 i hit
                          have xNi := (unhide HNM w5 hb45).cell i hit
                          unfold nmv at xNi
                          have hs45 := hb45.size
                          have hlt05 : w0.heap.size < w5.heap.size := by omega
                          obtain ⟨ra, rn, rc, rfl⟩ := own_slice (unhide H5).2.r
                          obtain ⟨la, ln, lc, rfl⟩ := own_slice (unhide H5).2.l
                          have HB45 := hide hb45
                          clear hb45
                          cases hWi : W i with
                          | false =>
                            as_aux_lemma =>
                              rw [hWi] at xW
                              obtain ⟨w8, E', hupd, h8, e1, e2, e3⟩ := S4.upd (unhide H4) (unhide H5).2 (by have := (unhide H5).1; omega) (fun h => by rw [hWi] at h; cases h) (by omega) #[.string ⟨#[]⟩, .string ⟨#[]⟩, .string (nm i), .string ⟨#[]⟩, .string ⟨#[]⟩, .map none, .map none, .slice none 0 0, .slice none 0 0, .slice none 0 0, .slice none 0 0, .slice none 0 0] rfl
                              have x6v := h8.rv.cell i hit
                              have f6v := h8.rv.froz i hit
                              have x6f := h8.rf.cell i hit
                              have f6f := h8.rf.froz i hit
                              have x6l := h8.rl.cell i hit
                              have f6l := h8.rl.froz i hit
                              unfold upto at x6v x6f x6l
                              simp only [Nat.lt_irrefl, if_false] at x6v x6f x6l
                              unfold pkg at hupd
                              have hro := h8.rows hit
                              rw [e1, e2, e3] at hro
                              have HRO := hide hro
                              clear hro h8 e1 e2 e3
                              go_wp2
                              go_roundw
                              case rel => exact ⟨i + 1, E', by omega, by go_num, unhide HRO⟩
                              case measure => simp [intOf] <;> omega
                          | true =>
                            as_aux_lemma =>
                              rw [hWi] at xW
                              have HQ1 : Hid (qs.length ≤ 1024) := by show qs.length ≤ 1024; have := (unhide H5).1; omega
                              go_wp2
                              go_loopw [22, 23, 28] (fun rs ls jj wx => ∃ j : Nat, 1 ≤ j ∧ j ≤ N + 1 ∧ rs = .slice ra rn rc ∧ ls = .slice la ln lc ∧ jj = .int .i64 j ∧ w5 = wx) (fun _ _ jj _ => N + 2 - (intOf jj).toNat)
                              case atStart => exact ⟨1, by omega, by omega, rfl, rfl, rfl, rfl⟩
                              case round =>
                                obtain ⟨j6, hj1, hj2, hrs, hls, hjj, hwx⟩ := hrel
                                subst hrs hls hjj hwx
                                obtain ⟨tt, htt2⟩ : ∃ tt, tt = (i + j6) % (N + 1) := ⟨_, rfl⟩
                                have HEM : Hid (((i : Int) + (j6 : Int)) % ((N : Int) + 1) = (tt : Int)) := by show ((i : Int) + (j6 : Int)) % ((N : Int) + 1) = (tt : Int); rw [htt2]; norm_cast
                                have htn : tt < N + 1 := by rw [htt2]; exact Nat.mod_lt _ (by omega)
                                have HJ6 : Hid (W tt = false → j6 < N + 1) := fun hf => by
                                  rcases Nat.lt_or_ge j6 (N + 1) with h | h
                                  · exact h
                                  · have e6 : j6 = N + 1 := by omega
                                    rw [e6, Nat.add_mod_right, Nat.mod_eq_of_lt hit] at htt2
                                    rw [htt2, hWi] at hf; cases hf
                                have xWt := unhide HWR w5 (unhide HB45) tt htn
                                have xNt := (unhide HNM w5 (unhide HB45)).cell tt htn
                                unfold nmv at xNt
                                clear htt2
                                cases hWt : W tt with
                                | false =>
                                  have hj3 := unhide HJ6 hWt
                                  rw [hWt] at xWt
                                  go_upto_region 55 with fail
                                  rw [unhide HEM]
                                  go_wp2
                                  go_roundw
                                  case rel => exact ⟨j6 + 1, by omega, by omega, rfl, rfl, by go_num, by trivial⟩
                                  case measure => simp [intOf] <;> omega
                                | true =>
                                  rw [hWt] at xWt
                                  obtain ⟨g, cap, w6, hr6, hb6, g', cap', w7, hr7, h7⟩ := S5.app (p := nm tt) (unhide H5).2 (unhide HQ1) (Or.inl ⟨tt, htn, rfl⟩)
                                  have xNt6 := (unhide HNM w6 hb6).cell tt htn
                                  have xNi7 := (unhide HNM w7 h7.bel).cell i hit
                                  unfold nmv at xNt6 xNi7
                                  have hs7 := h7.bel.size
                                  have hlt07 : w0.heap.size < w7.heap.size := by omega
                                  have HQL : Hid ((qs ++ [nm tt]).length ≤ 1025) := by show (qs ++ [nm tt]).length ≤ 1025; have := (unhide HQ1); rw [List.length_append]; simp at this ⊢ <;> omega
                                  have H7 := hide h7
                                  have HWX : Hid (W i = true → ∃ i', i' < N + 1 ∧ W i' = true ∧ nm i' ∈ qs ++ [nm tt]) := fun _ => ⟨tt, htn, hWt, by simp⟩
                                  clear h7 hb6
                                  obtain ⟨w8, E', hupd, h8, e1, e2, e3⟩ := S4.upd (unhide H4) (unhide H7) (unhide HQL) (unhide HWX) (by omega) #[.string ⟨#[]⟩, .string ⟨#[]⟩, .string (nm i), .string ⟨#[]⟩, .string ⟨#[]⟩, .map none, .map none, .slice none 0 0, .slice none 0 0, .slice none 0 0, .slice none 0 0, .slice none 0 0] rfl
                                  have x6v := h8.rv.cell i hit
                                  have f6v := h8.rv.froz i hit
                                  have x6f := h8.rf.cell i hit
                                  have f6f := h8.rf.froz i hit
                                  have x6l := h8.rl.cell i hit
                                  have f6l := h8.rl.froz i hit
                                  unfold upto at x6v x6f x6l
                                  simp only [Nat.lt_irrefl, if_false] at x6v x6f x6l
                                  unfold pkg at hupd
                                  have hro := h8.rows hit
                                  rw [e1, e2, e3] at hro
                                  have HRO := hide hro
                                  clear hro h8 e1 e2 e3
                                  go_upto_region 55 with fail
                                  rw [unhide HEM]
                                  go_wp2_with (first | (at_builtin; refine wpList_append_run _ rfl (.tmp 197) (.tmp 203) 33 rfl _ _ _ w6 rfl rfl hr6 ?_) | (at_builtin; refine wpList_append_run _ rfl (.tmp 205) (.tmp 210) 25 rfl _ _ _ w7 rfl rfl hr7 ?_) | go_in)
                                  go_roundw
                                  case rel => exact ⟨i + 1, E', by omega, by go_num, unhide HRO⟩
                                  case measure => simp [intOf] <;> omega
                    · as_aux_lemma =>
                        have hd2 : decide ((i : Int) < (N : Int)) = false := decide_eq_false (by omega)
                        have hWi : W i = true := by have e : i = N := by omega
                                                    rw [e]; exact unhide HWN
                        have xW := unhide HWR w4 (Below.refl _ _) i hit
                        rw [hWi] at xW
                        have HB45 := hide (Below.refl w4.heap.size w4)
                        have H5 := hide (S5.start w4 (N + 1))
                        go_wp2
                        go_loopw [22, 23, 28] (fun rs ls jj wx => ∃ j : Nat, 1 ≤ j ∧ j ≤ N + 1 ∧ rs = .slice none 0 0 ∧ ls = .slice none 0 0 ∧ jj = .int .i64 j ∧ w4 = wx) (fun _ _ jj _ => N + 2 - (intOf jj).toNat)
                        case atStart => exact ⟨1, by omega, by omega, rfl, rfl, rfl, rfl⟩
                        case round =>
                          obtain ⟨j6, hj1, hj2, hrs, hls, hjj, hwx⟩ := hrel
                          subst hrs hls hjj hwx
                          obtain ⟨tt, htt2⟩ : ∃ tt, tt = (i + j6) % (N + 1) := ⟨_, rfl⟩
                          have HEM : Hid (((i : Int) + (j6 : Int)) % ((N : Int) + 1) = (tt : Int)) := by show ((i : Int) + (j6 : Int)) % ((N : Int) + 1) = (tt : Int); rw [htt2]; norm_cast
                          have htn : tt < N + 1 := by rw [htt2]; exact Nat.mod_lt _ (by omega)
                          have HJ6 : Hid (W tt = false → j6 < N + 1) := fun hf => by
                            rcases Nat.lt_or_ge j6 (N + 1) with h | h
                            · exact h
                            · have e6 : j6 = N + 1 := by omega
                              rw [e6, Nat.add_mod_right, Nat.mod_eq_of_lt hit] at htt2
                              rw [htt2, hWi] at hf; cases hf
                          have xWt := unhide HWR w4 (unhide HB45) tt htn
                          have xNt := (unhide HNM w4 (unhide HB45)).cell tt htn
                          unfold nmv at xNt
                          clear htt2
                          cases hWt : W tt with
                          | false =>
                            have hj3 := unhide HJ6 hWt
                            rw [hWt] at xWt
                            go_upto_region 55 with fail
                            rw [unhide HEM]
                            go_wp2
                            go_roundw
                            case rel => exact ⟨j6 + 1, by omega, by omega, rfl, rfl, by go_num, by trivial⟩
                            case measure => simp [intOf] <;> omega
                          | true =>
                            rw [hWt] at xWt
                            obtain ⟨g, cap, w6, hr6, hb6, g', cap', w7, hr7, h7⟩ := S5.app (p := nm tt) (unhide H5) (show ([] : List ByteArray).length ≤ 1024 by decide) (Or.inl ⟨tt, htn, rfl⟩)
                            rw [show ([] : List ByteArray).length + 1 = 1 from rfl] at hr6 hr7 h7
                            have xNt6 := (unhide HNM w6 hb6).cell tt htn
                            have xNi7 := (unhide HNM w7 h7.bel).cell i hit
                            unfold nmv at xNt6 xNi7
                            have hs7 := h7.bel.size
                            have hlt07 : w0.heap.size < w7.heap.size := by omega
                            have HQL : Hid ((([] : List ByteArray) ++ [nm tt]).length ≤ 1025) := by show (([] : List ByteArray) ++ [nm tt]).length ≤ 1025; have := (show ([] : List ByteArray).length ≤ 1024 by decide); rw [List.length_append]; simp at this ⊢ <;> omega
                            have H7 := hide h7
                            have HWX : Hid (W i = true → ∃ i', i' < N + 1 ∧ W i' = true ∧ nm i' ∈ ([] : List ByteArray) ++ [nm tt]) := fun _ => ⟨tt, htn, hWt, by simp⟩
                            clear h7 hb6
                            obtain ⟨w8, E', hupd, h8, e1, e2, e3⟩ := S4.upd (unhide H4) (unhide H7) (unhide HQL) (unhide HWX) (by omega) #[.string ⟨#[]⟩, .string ⟨#[]⟩, .string (nm i), .string ⟨#[]⟩, .string ⟨#[]⟩, .map none, .map none, .slice none 0 0, .slice none 0 0, .slice none 0 0, .slice none 0 0, .slice none 0 0] rfl
                            have x6v := h8.rv.cell i hit
                            have f6v := h8.rv.froz i hit
                            have x6f := h8.rf.cell i hit
                            have f6f := h8.rf.froz i hit
                            have x6l := h8.rl.cell i hit
                            have f6l := h8.rl.froz i hit
                            unfold upto at x6v x6f x6l
                            simp only [Nat.lt_irrefl, if_false] at x6v x6f x6l
                            unfold pkg at hupd
                            have hro := h8.rows hit
                            rw [e1, e2, e3] at hro
                            have HRO := hide hro
                            clear hro h8 e1 e2 e3
                            go_upto_region 55 with fail
                            rw [unhide HEM]
                            go_wp2_with (first | (at_builtin; refine wpList_append_run _ rfl (.tmp 197) (.tmp 203) 33 rfl _ _ _ w6 rfl rfl hr6 ?_) | (at_builtin; refine wpList_append_run _ rfl (.tmp 205) (.tmp 210) 25 rfl _ _ _ w7 rfl rfl hr7 ?_) | go_in)
                            go_roundw
                            case rel => exact ⟨i + 1, E', by omega, by go_num, unhide HRO⟩
                            case measure => simp [intOf] <;> omega
                  · as_aux_lemma =>
                      have ei : i = N + 1 := by omega
                      have h4 := unhide H4
                      rw [ei] at h4
                      have h3 := (unhide H3K).below h4.bel
                      have HCY := hide (cyc_any FF w4 _ _ _ _ _ _ _ _ _ _ _ _ _ (by rw [(unhide HB04).tape]; exact unhide HF) (mkCyc h3 h4 (unhide HWN) (unhide HCW) hN))
                      have H34 := hide (And.intro h3 h4)
                      clear h3 h4 ei
                      go_wp2_with fail
                      refine (unhide HCY).mono ?_
                      rintro e w9 ⟨⟨eb, rfl⟩, hb9⟩
                      have h39 := (unhide H34).1.below hb9
                      have h49 := (unhide H34).2.below hb9
                      have hl28 : (Builtin.len_ #[28] 3 #[.map (some (w1.heap.size + 2))]).run Ybaf.prog w9 = .ok (.int .i64 ((N : Int) + 1)) w9 := by
                        have := h39.mp.len Ybaf.underlying28 3
                        rw [wD_size _ _ (by omega)] at this
                        simpa using this
                      have hl29 : (Builtin.len_ #[29] 3 #[.map (some (w3.heap.size + 1))]).run Ybaf.prog w9 = .ok (.int .i64 ((N : Int) + 1)) w9 := by
                        have := h49.mp.len Ybaf.underlying29 3
                        rw [wD_size _ _ (by omega)] at this
                        simpa using this
                      have H39 := hide h39
                      have H49 := hide h49
                      have HB9 : Hid (Below w0.heap.size w0 w9) := (unhide HB04).trans (hb9.mono (by omega))
                      have HNM9 := hide (unhide HNM w9 hb9)
                      clear h39 h49 hb9 HCY H34 hi hit HNM HWR H4 HB04 HWN HI HL1
                      have hm : Ybaf.prog.follows .mixedOrders = true := by kernel_rfl
                      go_wp2
                      go_loopw [33] (fun ii wx => ∃ i : Nat, i ≤ N + 1 ∧ ii = .int .i64 i ∧ Hid (Below w9.heap.size w9 wx)) (fun ii _ => N + 1 - (intOf ii).toNat)
                      case atStart => exact ⟨0, Nat.zero_le _, rfl, Below.refl _ _⟩
                      case round =>
                        clear hl28 hl29
                        obtain ⟨i, hi, rfl, HB⟩ := hrel
                        obtain ⟨w7, hw7⟩ : ∃ w7, w7 = wr := ⟨_, rfl⟩
                        subst hw7
                        by_cases hit : i < N + 1
                        · as_aux_lemma =>
                            have h3 := (unhide H39).below (unhide HB)
                            have h4 := (unhide H49).below (unhide HB)
                            have hd1 : decide ((i : Int) < (N : Int) + 1) = true := decide_eq_true (by omega)
                            have hk28 := h3.look (by omega) i hit
                            have hk29 := h4.look (by omega) i hit
                            have xN := ((unhide HNM9).below (unhide HB)).cell i hit
                            unfold nmv at xN
                            have xC := h3.rC.cell i hit
                            rw [upto_all _ _ hit] at xC
                            have H3 := hide h3
                            have H4 := hide h4
                            clear h3 h4
                            go_wp2
                            obtain ⟨wb, hwb⟩ : ∃ wb, wb = w7.alloc (.cells #[.pointer (some ⟨(E i).f, 0, none⟩), .pointer (some ⟨(E i).v, 0, none⟩), .map none, .map none] 52) := ⟨_, rfl⟩
                            rw [← hwb]
                            have hbb : Below w7.heap.size w7 wb := by rw [hwb]; exact (Below.refl _ _).alloc (Nat.le_refl _) _
                            have hsb : w7.heap.size < wb.heap.size := by rw [hwb]; simp
                            have p0 : wb.cell? ⟨w7.heap.size, 0, none⟩ = some (.pointer (some ⟨(E i).f, 0, none⟩)) := by rw [hwb]; simp
                            have p1 : wb.cell? ⟨w7.heap.size, 1, none⟩ = some (.pointer (some ⟨(E i).v, 0, none⟩)) := by rw [hwb]; simp
                            have h4 := (unhide H4).below hbb
                            have xv := h4.rv.cell i hit
                            have xf := h4.rf.cell i hit
                            have xl := h4.rl.cell i hit
                            rw [upto_all _ _ hit] at xv xf xl
                            have hlb : w3.heap.size + 4 < wb.heap.size := h4.rl.lt
                            have ent := h4.ent i hit
                            have cf := ent.cf
                            have cv0 := ent.cv0
                            have cv2 := ent.cv2
                            have xN1 := (((unhide HNM9).below (unhide HB)).below hbb).cell i hit
                            unfold nmv at xN1
                            obtain ⟨ro, rcc, er, hro⟩ := slv_form (E i).rb (E i).rn (E i).rc
                            obtain ⟨lo, lcc, el, hlo⟩ := slv_form (E i).lb (E i).rn (E i).lc
                            rw [er] at cv2
                            rw [el] at xl
                            have HENT := hide ent
                            have HRO := hide hro
                            have HLO := hide hlo
                            have HBB := hide hbb
                            clear h4 ent hwb hk28 hk29 xC xN hro hlo hbb er el
                            have n36 := neq36
                            have n40 := neq40
                            go_quiet (fail)
                            go_wp2
                            go_quiet (fail)
                            go_wp2
                            go_quiet (fail)
                            go_wp2
                            go_loopw [344] (fun jj wx => ∃ t : Nat, t ≤ (E i).rn ∧ jj = .int .i64 t ∧ Hid (Below wb.heap.size wb wx)) (fun jj _ => (E i).rn - (intOf jj).toNat)
                            case atStart => exact ⟨0, Nat.zero_le _, rfl, rfl, rfl, rfl, Nat.le_refl _, fun _ _ => rfl⟩
                            case round =>
                              obtain ⟨t, htl, rfl, HB8⟩ := hrel
                              have hb8 := unhide HB8
                              have y1 := (hb8.cell (p := ⟨w7.heap.size, 1, none⟩) hsb).trans p1
                              have yv2 := (hb8.cell (p := ⟨(E i).v, 2, none⟩) (unhide HENT).vhi).trans cv2
                              have yl := (hb8.cell (p := ⟨w3.heap.size + 4, i, none⟩) hlb).trans xl
                              by_cases htt : t < (E i).rn
                              · as_aux_lemma =>
                                  have hrp : 0 < (E i).rn := by omega
                                  have hrn := (unhide HENT).rn
                                  have hblk := (unhide HENT).blk hrp
                                  have yq := (hb8.cell (p := ⟨(E i).rb, t * 2, none⟩) hblk.1.2).trans ((unhide HENT).cq t htt).1
                                  have ycl := (hb8.cell (p := ⟨(E i).lb, t, none⟩) hblk.2.2).trans ((unhide HENT).cl t htt)
                                  have hro' := unhide HRO hrp
                                  have hlo' := unhide HLO hrp
                                  subst hro' hlo'
                                  clear hb8 hblk p0 p1 xv xf xl cf cv0 cv2 xN1 n36 n40
                                  go_wp2
                                  go_quiet (fail)
                                  go_wp2
                                  go_roundw
                                  case rel => exact ⟨t + 1, htt, by go_num, (unhide HB8).os, (unhide HB8).tape, (unhide HB8).output, (unhide HB8).size, (unhide HB8).block⟩
                                  case measure => simp [intOf] <;> omega
                              · as_aux_lemma =>
                                  clear hb8
                                  go_wp2
                                  go_roundw
                                  case rel => exact ⟨i + 1, by omega, by go_num, ((unhide HB).trans ((unhide HBB).mono (unhide HB).size)).trans ((unhide HB8).mono (Nat.le_trans (unhide HB).size (unhide HBB).size))⟩
                                  case measure => simp [intOf] <;> omega
                        · go_wp2
                          go_ret
                          exact ⟨rfl, (unhide HB9).trans ((unhide HB).mono (unhide HB9).size)⟩
  · go_wp2
    go_ret
    exact ⟨rfl, Below.refl _ _⟩
end Go.Proofs.YbulkdabsFmt.Fn
