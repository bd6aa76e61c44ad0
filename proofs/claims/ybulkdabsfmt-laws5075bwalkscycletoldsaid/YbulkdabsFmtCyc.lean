/-
  cycleError (5) AT THIS DUMP.
-/
import Derived.Test.YbulkdabsFmtMap
import Derived.Test.YbulkdabsFmtStr
import Derived.Test.YbulkdabsFmtErr
import Derived.Test.YbulkdabsFmtJoin
import Derived.Test.YbulkdabsFmtRow
import Derived.ChangeBookTie2
import Derived.Deep.AppendLies
import Derived.Deep.Onto
import Derived.Lib.Strings
namespace Go.Proofs.YbulkdabsFmt.Cy
open Go.ChangeShapes Go.WideShapes Go.ChangeAt Go.RowKit Go.Maps Go.Proofs.YbulkdabsFmt.Er Go.Proofs.YbulkdabsFmt.Nm Go.Proofs.YbulkdabsFmt.Mp Go.Proofs.YbulkdabsFmt.Rw

/-- The i-th key. -/
def ky (i : Nat) : Lit := .string (nm i).data.toList

/-- What cycleError is told of its two maps. -/
structure Cyc (w : World) (bw bs n k : Nat) (Dw Ds : DataW Unit) (c : Nat → Int) (F V RB RN RC : Nat → Nat) (Q : Nat → Nat → ByteArray) : Prop where
  k1 : k ≤ 301
  mw : w.ownsMap Ybaf.prog 9 (plainElem Ybaf.prog 3) bw n Dw
  ms : w.ownsMap Ybaf.prog 9 RP bs n Ds
  keyW : ∀ kl, Maps.has Dw kl = true → ∃ i, i < k ∧ kl = ky i
  hasW : ∀ i, i < k → Maps.has Dw (ky i) = true
  atW : ∀ i, i < k → ∀ zd, Dw.atKey (ky i) zd = .lit (.int .i64 (c i))
  atS : ∀ i, i < k → ∀ zd, Ds.atKey (ky i) zd = pd (F i) (V i)
  pos : ∃ i, i < k ∧ 0 < c i
  fl : ∀ i, i < k → F i < w.heap.size
  vl : ∀ i, i < k → V i < w.heap.size
  cf : ∀ i, i < k → w.cell? ⟨F i, 2, none⟩ = some (.string (nm i))
  cv0 : ∀ i, i < k → w.cell? ⟨V i, 0, none⟩ = some (.string ⟨#[49]⟩)
  cv2 : ∀ i, i < k → 0 < c i → w.cell? ⟨V i, 2, none⟩ = some (.slice (some ⟨RB i, 0, none⟩) (RN i) (RC i))
  rn : ∀ i, i < k → 0 < c i → RN i ≤ 1025 ∧ RB i < w.heap.size
  cq : ∀ i, i < k → 0 < c i → ∀ j, j < RN i → w.cell? ⟨RB i, j * 2, none⟩ = some (.string (Q i j)) ∧ w.cell? ⟨RB i, j * 2 + 1, none⟩ = some (.string ⟨#[]⟩) ∧ (Q i j).size ≤ maxLen
  qat : ∀ i, i < k → 0 < c i → ∀ j, j < RN i → ∃ cc : Int, Dw.atKey (.string (Q i j).data.toList) (.lit (.int .i64 0)) = .lit (.int .i64 cc) ∧ (0 < cc → ∃ i', i' < k ∧ 0 < c i' ∧ Q i j = nm i')
  some : ∀ i, i < k → 0 < c i → ∃ j, j < RN i ∧ ∃ i', i' < k ∧ 0 < c i' ∧ Q i j = nm i'

/-- What the walk has seen: L, each once, each waiting; 'seen' holds just these. -/
structure Seen (k : Nat) (c : Nat → Int) (L : List Nat) (D3 : DataW Unit) : Prop where
  nod : L.Nodup
  isM : IsMap D3
  wait : ∀ j, j ∈ L → j < k ∧ 0 < c j
  has : ∀ j, j < k → (Maps.has D3 (ky j) = true ↔ j ∈ L)
  val : ∀ j, j < k → j ∈ L → ∃ p : Nat, p < L.length ∧ ∀ zd, D3.atKey (ky j) zd = .lit (.int .i64 (p : Int))
theorem seen_nil (k : Nat) (c : Nat → Int) : Seen k c [] (.map []) :=
  ⟨List.nodup_nil, ⟨_, rfl⟩, fun j h => (by simp at h), fun j _ => ⟨fun h => (by simp [Maps.has] at h), fun h => (by simp at h)⟩, fun j _ h => (by simp at h)⟩
theorem seen_len {k : Nat} {c : Nat → Int} {L : List Nat} {D3 : DataW Unit} (h : Seen k c L D3) (hk : k ≤ 301) : L.length ≤ 301 :=
  Nat.le_trans (nodup_lt_length k L h.nod fun j hj => (h.wait j hj).1) hk
def Next (k : Nat) (c : Nat → Int) (q : Nat → ByteArray) (j : Nat) (s : ByteArray) : Prop :=
  (s = ⟨#[]⟩ ∧ ∀ j', j' < j → ∀ i', i' < k → 0 < c i' → q j' ≠ nm i') ∨ ∃ i', i' < k ∧ 0 < c i' ∧ s = nm i'
theorem field_pkg (f g : Nat) (w : World) : (Instr.field 52 (.agg #[.pointer (some ⟨f, 0, none⟩), .pointer (some ⟨g, 0, none⟩), .map none, .map none]) 1).run Ybaf.prog w = .ok (.pointer (some ⟨g, 0, none⟩)) w := by kernel_rfl
theorem grown_none {a b : World} (h : Below a.heap.size a b) : a.grownBy b none := ⟨h.os, h.tape, h.output, h.size, fun k hk _ => h.block k hk⟩
theorem own_ne {w : World} {b n : Nat} {e : TypeId} {v : Value} {xs : List Value} (h : w.ownsRow (b + 1) e 1 v n xs) : v.ownBlock = Option.none ∨ v.ownBlock ≠ Option.some b := by
  cases hv : v.ownBlock with
  | none => exact .inl rfl
  | some g => exact .inr (fun e => by have := (h.lt g hv).1; injection e; omega)
def lenOf : Value → Nat | .slice _ n _ => n | _ => 0
def names (L : List Nat) : List Value := L.map fun j => .string (nm j)

theorem invK (key : Value) (kl : Lit) (h : keyOf Ybaf.prog 9 key = some kl) : ∃ x : ByteArray, key = .string x := by
  cases key <;> simp [keyOf, Ybaf.underlying9, mapKey] at h
  exact ⟨_, rfl⟩
theorem invV (v : Value) (y : DataW Unit × List MemPlace) (h : plainElem Ybaf.prog 3 v = some y) : ∃ c : Int, v = .int .i64 c := by
  obtain ⟨a, rfl, _⟩ := plainElem_int_inv Ybaf.underlying3 h
  exact ⟨a, rfl⟩

/-- The name that the first loop holds: none yet (then no one that has come was waiting), or one that waits. -/
def Held (Dw : DataW Unit) (k : Nat) (c : Nat → Int) (left : Lit → Bool) (s : ByteArray) : Prop :=
  (∀ kl, left kl = true → Maps.has Dw kl = true) ∧ ((s = ⟨#[]⟩ ∧ ∀ i, i < k → left (ky i) = false → c i ≤ 0) ∨ ∃ i, i < k ∧ 0 < c i ∧ s = nm i)

theorem nm_data {x : ByteArray} {i : Nat} (h : x.data.toList = (nm i).data.toList) : x = nm i := by
  cases x with | mk d => cases hn : nm i with | mk d' => rw [hn] at h; simp at h; rw [h]
theorem key_eq {x : ByteArray} {kl : Lit} (h : keyOf Ybaf.prog 9 (.string x) = some kl) : kl = .string x.data.toList := by
  simp [keyOf, Ybaf.underlying9, mapKey] at h
  exact h.2.symm
theorem met {w : World} {bw bs n k : Nat} {Dw Ds : DataW Unit} {c : Nat → Int} {F V RB RN RC : Nat → Nat} {Q : Nat → Nat → ByteArray} (hC : Cyc w bw bs n k Dw Ds c F V RB RN RC Q) {left : Lit → Bool} {s x : ByteArray} {c' : Int} {kl : Lit} {a : DataW Unit} {b : List MemPlace}
    (hH : Held Dw k c left s) (hkey : keyOf Ybaf.prog 9 (.string x) = some kl) (hlk : left kl = true) (hv : plainElem Ybaf.prog 3 (.int .i64 c') = some (a, b)) (hat : ∀ zd, Dw.atKey kl zd = a) : ∃ i, i < k ∧ x = nm i ∧ c' = c i := by
  obtain ⟨i, hi, e⟩ := hC.keyW kl (hH.1 kl hlk)
  have hk := key_eq hkey
  refine ⟨i, hi, nm_data (by rw [hk] at e; simpa [ky] using e), ?_⟩
  obtain ⟨a', e1, e2, _⟩ := plainElem_int_inv Ybaf.underlying3 hv
  have h1 := hat .nil
  rw [e, hC.atW i hi] at h1
  simp only [Prod.mk.injEq] at e2
  rw [e2.1] at h1
  simp at h1 e1
  omega
theorem heldNo {w : World} {bw bs n k : Nat} {Dw Ds : DataW Unit} {c : Nat → Int} {F V RB RN RC : Nat → Nat} {Q : Nat → Nat → ByteArray} (hC : Cyc w bw bs n k Dw Ds c F V RB RN RC Q) {left : Lit → Bool} {s : ByteArray} {c' : Int} {kl : Lit} {i : Nat}
    (hH : Held Dw k c left s) (hkey : keyOf Ybaf.prog 9 (.string (nm i)) = some kl) (hi : i < k) (hci : c' = c i) (hp : ¬ 0 < c') : Held Dw k c (fun z => left z && !z.sameKey kl) s := by
  refine ⟨fun z hz => hH.1 z (by simp at hz; exact hz.1), ?_⟩
  rcases hH.2 with ⟨hs, hall⟩ | h
  · refine Or.inl ⟨hs, fun j hj hl => ?_⟩
    simp only [Bool.and_eq_false_iff, Bool.not_eq_false'] at hl
    rcases hl with hl | hl
    · exact hall j hj hl
    · have hk := key_eq hkey
      have e := WideAt.sameKey_eq hl
      rw [hk] at e
      have hd : nm j = nm i := nm_data (by simpa [ky] using e)
      have hkk := hC.k1
      have := nm_inj (by omega) (by omega) hd
      subst this; omega
  · exact Or.inr h

theorem ky_ne {i j : Nat} (hi : i < 301) (hj : j < 301) (h : i ≠ j) : ky i ≠ ky j := fun e => h (nm_inj (by omega) (by omega) (nm_data (by simpa [ky] using e)))
theorem seen_put {k : Nat} {c : Nat → Int} {L : List Nat} {D3 : DataW Unit} (h : Seen k c L D3) (hk : k ≤ 301) {i : Nat} (hi : i < k) (hp : 0 < c i) (hin : i ∉ L) :
    Seen k c (L ++ [i]) (D3.put (ky i) (.lit (.int .i64 (L.length : Int)))) where
  nod := by
    rw [List.nodup_append]
    exact ⟨h.nod, by simp, fun a ha b hb e => by simp at hb; subst hb; subst e; exact hin ha⟩
  isM := h.isM.put _ _
  wait := fun j hj => by
    rcases List.mem_append.1 hj with hj | hj
    · exact h.wait j hj
    · simp at hj; subst hj; exact ⟨hi, hp⟩
  has := fun j hj => by
    by_cases e : j = i
    · subst e
      simp [has_put_same h.isM (k := ky j) trivial]
    · rw [has_put_other (ky_ne (by omega) (by omega) e), h.has j hj]
      simp [e]
  val := fun j hj hm => by
    by_cases e : j = i
    · subst e
      exact ⟨L.length, by simp, fun zd => atKey_put_same h.isM (k := ky j) trivial _ _⟩
    · have hm' : j ∈ L := by simpa [e] using hm
      obtain ⟨p, hp, hz⟩ := h.val j hj hm'
      exact ⟨p, by simp; omega, fun zd => (atKey_put_other (ky_ne (by omega) (by omega) e) _ _).trans (hz zd)⟩
theorem seen_put_len {k : Nat} {c : Nat → Int} {L : List Nat} {D3 : DataW Unit} (h : Seen k c L D3) {i : Nat} (hi : i < k) (hin : i ∉ L) : L.length < k := by
  have := nodup_lt_length k (L ++ [i]) (by rw [List.nodup_append]; exact ⟨h.nod, by simp, fun a ha b hb e => by simp at hb; subst hb; subst e; exact hin ha⟩) (fun j hj => by
    rcases List.mem_append.1 hj with hj | hj
    · exact (h.wait j hj).1
    · simp at hj; subst hj; exact hi)
  simp at this; omega
/-- append(path[p:], x). -/
theorem append_tail (W : World) (base p len cp g : Nat) (xs : List Value) (hp : p < len) (h : W.ownsRow base 9 1 (.slice (some ⟨g, 0, none⟩) len cp) len xs) (hlen : len ≤ 301) (hb : base ≤ W.heap.size) (x : ByteArray) (nb : Nat) (hnb : W.cell? ⟨nb, 0, none⟩ = some (.string x)) (ty : TypeId) :
    ∃ g' o' cap' w', (Builtin.append_ #[25, 25] ty #[.slice (some ⟨g, p, none⟩) (len - p) (cp - p), .slice (some ⟨nb, 0, none⟩) 1 1]).run Ybaf.prog W = .ok (.slice (some ⟨g', o', none⟩) (len - p + 1) cap') w' ∧ g' < w'.heap.size ∧
      (∀ j u, (xs.drop p ++ [.string x])[j]? = some u → w'.cell? ⟨g', o' + j, none⟩ = some u) ∧ Below base W w' := by
  obtain ⟨i9, hi9, hz0, hz1, hz2⟩ := info_parts info9
  have hx := h.1
  have hcells := h.cells (g := g) rfl
  rcases h.2 with ⟨hn, _⟩ | ⟨g1, cap1, cur, e, hbg, hgg, hle, hmx, hcs, htk⟩
  · simp at hn
  simp only [Value.slice.injEq, Option.some.injEq, Addr.mk.injEq, true_and, and_true] at e
  obtain ⟨rfl, rfl⟩ := e
  have hgl : g < W.heap.size := (Array.getElem?_eq_some_iff.1 hgg).1
  have hxl : xs.length = len := by simpa using hx
  have hnews : ∀ (j : Nat) u, [Value.string x][j]? = some u → W.cell? ((⟨nb, 0, none⟩ : Addr).add j) = some u := by
    intro j u hj
    match j, hj with
    | 0, hj => simp at hj; subst hj; simpa [Addr.add] using hnb
  have holds : ∀ (j : Nat) u, (xs.drop p)[j]? = some u → W.cell? ((⟨g, p, none⟩ : Addr).add j) = some u := by
    intro j u hj
    rw [List.getElem?_drop] at hj
    have := hcells (p + j) u hj
    rw [Addr.add_lit] at this ⊢
    simpa using this
  by_cases hroom : len < cp
  · have hcell : (W.cell? ⟨g, len, none⟩).isSome = true := by
      have hl : len < cur.size := by omega
      simp [World.cell?, hgg, hl]
    have hrun := run_append_room_cells (P := Ybaf.prog) W 25 ty 9 i9 Ybaf.underlying25 hi9 g p (len - p) (cp - p) ⟨nb, 0, none⟩ 1 1 [.string x] (by rw [hz1]; rfl) hnews (fun u hu => by simp at hu; subst hu; rfl) (by omega)
      (fun j hj => by simp at hj; subst hj; rw [hz1, show p + (len - p) * 1 + 0 = len by omega]; exact hcell)
      (fun j hj => by simp [World.frozen?, hgg])
    rw [hz1, show p + (len - p) * 1 = len by omega] at hrun
    refine ⟨g, p, cp - p, _, hrun, by simpa [World.setCells, World.setCell] using hgl, fun j u hj => ?_, (Below.refl _ _).setCell hbg _⟩
    simp only [World.setCells]
    by_cases e : j < len - p
    · rw [List.getElem?_append_left (by simp; omega)] at hj
      rw [World.cell?_setCell_other _ _ _ _ (by intro q; injection q; omega)]
      have := holds j u hj
      rwa [Addr.add_lit] at this
    · rw [List.getElem?_append_right (by simp; omega)] at hj
      have hj0 : j - (xs.drop p).length = 0 := by
        have := (List.getElem?_eq_some_iff.1 hj).1
        simp at this ⊢; omega
      rw [hj0] at hj
      simp at hj
      have hjl : p + j = len := by simp at hj0; have := hxl; omega
      rw [hjl]
      obtain ⟨u0, hu0⟩ := Option.isSome_iff_exists.1 hcell
      rw [World.cell?_setCell_same _ _ _ hu0, hj]
  · obtain ⟨v', w', hrun, hrow, hgr⟩ := run_append_arg_grows (P := Ybaf.prog) W 25 ty 9 i9 (.string ⟨#[]⟩) 1 16 Ybaf.underlying25 hi9 hz0 hz1 hz2 rfl (by decide) ⟨g, p, none⟩ (len - p) (cp - p) (xs.drop p) (by simp; omega) holds ⟨nb, 0, none⟩ 1 1 [.string x] rfl hnews (by omega) (by unfold maxLen; omega) (by omega)
    have hbw : Below base W w' := (Below.refl _ _).grown hgr hb (fun q e => by cases e)
    rcases hrow.2 with ⟨_, hn⟩ | ⟨g', cap', cur', rfl, hg', hgg', _, _, _, _⟩
    · omega
    · refine ⟨g', 0, cap', w', hrun, (Array.getElem?_eq_some_iff.1 hgg').1, fun j u hj => ?_, hbw⟩
      have := hrow.cells (g := g') rfl j u hj
      rwa [Addr.add_lit] at this

theorem path_cells {k p i : Nat} {L : List Nat} (hL : ∀ j, j ∈ L → j < k) (hi : i < k) (hp : p < L.length) (j : Nat) (hj : j < L.length - p + 1) : ∃ i', i' < k ∧ ((names L).drop p ++ [Value.string (nm i)])[j]? = some (.string (nm i')) := by
  have hdl : ((names L).drop p).length = L.length - p := by simp [names]
  by_cases h : j < L.length - p
  · rw [List.getElem?_append_left (by omega), List.getElem?_drop]
    have hl : p + j < L.length := by omega
    exact ⟨L[p + j], hL _ (List.getElem_mem hl), by simp [names, hl]⟩
  · rw [List.getElem?_append_right (by omega), hdl, show j - (L.length - p) = 0 by omega]
    exact ⟨i, hi, rfl⟩
theorem wpList_append_run {P : Program} (w : World) {ops : Array Oper} {rest : List Oper} {o : Oper} {a : Act} {Q : Exit → Act → World → Prop} (hgd : o.guard = none) (s x : Operand) (t : TypeId)
    (ho : o.op = .call { callee := .builtin .append, args := #[s, x], argTypes := #[t, t] }) (v xv v' : Value) (w' : World) (hs : a.eval s = v) (hx : a.eval x = xv)
    (hrun : (Builtin.append_ #[t, t] o.type #[v, xv]).run P w = .ok v' w') (hK : wpList P ops Q rest (a.put o.dst v') w') : wpList P ops Q (o :: rest) a w := by
  refine wpList_plain hgd fun K hK' => ?_
  unfold Oper.wp
  simp [execOp, ho, resolve, invoke, builtin, hs, hx, hrun, Result.andThen]
  exact hK' _ _ hK
theorem lens_le (b : Nat) : ∀ xs : List (List UInt8), (∀ x, x ∈ xs → x.length ≤ b) → Lib.lens xs ≤ b * xs.length
  | [], _ => by simp [Lib.lens]
  | x :: r, h => by
    have h1 := lens_le b r (fun y hy => h y (List.mem_cons_of_mem _ hy))
    have h2 := h x List.mem_cons_self
    simp [Lib.lens, Nat.mul_add] at h1 ⊢
    omega
theorem join_le (m : Nat) (hm : m ≤ 302) (ws : Nat → ByteArray) (hws : ∀ t, (ws t).size ≤ 8) : (Lib.join (((List.range m).map ws).map (·.data.toList)) (⟨#[32, 45, 62, 32]⟩ : ByteArray).data.toList).length ≤ 140737488355328 := by
  have hlen : (((List.range m).map ws).map (·.data.toList)).length = m := by simp
  have hel : ∀ x, x ∈ ((List.range m).map ws).map (·.data.toList) → x.length ≤ 8 := by
    intro x hx
    simp only [List.map_map, List.mem_map] at hx
    obtain ⟨t, _, rfl⟩ := hx
    have := hws t
    simpa using this
  revert hlen hel
  generalize ((List.range m).map ws).map (·.data.toList) = xs
  intro hlen hel
  cases xs with
  | nil => simp [Lib.join_nil]
  | cons x r =>
    rw [Lib.join_length]
    have := lens_le 8 (x :: r) hel
    simp at hlen this ⊢
    omega
theorem next_no {w : World} {bw bs n k : Nat} {Dw Ds : DataW Unit} {c : Nat → Int} {F V RB RN RC : Nat → Nat} {Q : Nat → Nat → ByteArray} (hC : Cyc w bw bs n k Dw Ds c F V RB RN RC Q) {i j : Nat} {s qq : ByteArray} {cc : Int} (hq : qq = Q i j)
    (hat : Dw.atKey (.string qq.data.toList) (.lit (.int .i64 0)) = .lit (.int .i64 cc)) (hcc : ¬ 0 < cc) (h : Next k c (Q i) j s) : Next k c (Q i) (j + 1) s := by
  rcases h with ⟨hs, hall⟩ | h
  · refine Or.inl ⟨hs, fun j' hj' i' hi' hp' e => ?_⟩
    by_cases hj : j' < j
    · exact hall j' hj i' hi' hp' e
    · have : j' = j := by omega
      subst this
      rw [hq, e] at hat
      have h2 := hC.atW i' hi' (.lit (.int .i64 0))
      unfold ky at h2
      rw [h2] at hat
      simp at hat
      omega
  · exact Or.inr h
theorem next_end {w : World} {bw bs n k : Nat} {Dw Ds : DataW Unit} {c : Nat → Int} {F V RB RN RC : Nat → Nat} {Q : Nat → Nat → ByteArray} (hC : Cyc w bw bs n k Dw Ds c F V RB RN RC Q) {i j : Nat} {s : ByteArray} (hi : i < k) (hp : 0 < c i) (hj : RN i ≤ j) (h : Next k c (Q i) j s) : ∃ i', i' < k ∧ 0 < c i' ∧ s = nm i' := by
  rcases h with ⟨_, hall⟩ | h
  · obtain ⟨j', hj', i', hi', hp', e⟩ := hC.some i hi hp
    exact absurd e (hall j' (by omega) i' hi' hp')
  · exact h

set_option maxHeartbeats 4000000 in
set_option maxRecDepth 100000 in
theorem cyc_any (FF : Stop.Interp) (w : World) (bw bs n k : Nat) (Dw Ds : DataW Unit) (c : Nat → Int) (F V RB RN RC : Nat → Nat) (Q : Nat → Nat → ByteArray) (hF : FF.answers w.tape) (hC : Cyc w bw bs n k Dw Ds c F V RB RN RC Q) :
    Calls Ybaf.prog 5 #[.map (some bw), .map (some bs)] w fun e w' => (∃ b, e = .returned (.iface 71 (.pointer (some ⟨b, 0, none⟩)))) ∧ Below w.heap.size w w' := by
  have hown := hC.mw
  have HC := hide hC
  clear hC
  go_enter Ybaf.func5, Ybaf.ntmps5
  go_wp2_with (first | (at_range; refine wpList_range_own _ rfl _ 28 rfl 9 3 kd Ybaf.underlying28 _ bw n Dw rfl hown ?_; intro w0 hrg0 hg0 hs0) | go_in)
  go_frame
  go_loopw [5] (fun nme wr => ∃ (left : Lit → Bool) (cnt : Nat) (s : ByteArray), nme = .string s ∧ wr.ranges Ybaf.prog 9 (plainElem Ybaf.prog 3) bw w.heap.size n Dw left cnt ∧ Hid (Below w.heap.size w wr ∧ Held Dw k c left s)) (fun _ wr => wr.rangeLeft bw w.heap.size)
  case atStart => exact ⟨_, _, _, rfl, hrg0, (Below.refl _ _).grown hg0 (Nat.le_refl _) (fun k h => by cases h), fun _ h => h, Or.inl ⟨rfl, fun i hi h => by rw [(unhide HC).hasW i hi] at h; cases h⟩⟩
  case round =>
    obtain ⟨left, cnt, s, rfl, hrg, HR⟩ := hrel
    go_wp2_with (first | (at_next; refine wpList_next_ranges _ rfl _ rfl 9 kd _ Value.string (Value.int .i64) invK invV bw w.heap.size n Dw left cnt rfl hrg ?_ ?_) | go_in)
    · intro h0 hall
      have hst : ∃ i, i < k ∧ 0 < c i ∧ s = nm i := by
        rcases (unhide HR).2.2 with ⟨_, h⟩ | h
        · obtain ⟨i, hi, hp⟩ := (unhide HC).pos
          have := h i hi (hall _)
          omega
        · exact h
      have HB := hide (unhide HR).1
      have HS := hide hst
      clear hrg HR hst h0 hall hown hrg0 hg0 hs0
      have hmk : (Instr.makeMap 28 none).run Ybaf.prog wr = .ok (.map (some wr.heap.size)) (wr.alloc (.map #[] 0)) := run_makeMap _ _
      have own3 : (wr.alloc (.map #[] 0)).ownsMap Ybaf.prog 9 (plainElem (H := Unit) Ybaf.prog 3) wr.heap.size 0 (.map []) := World.ownsMap_made wr Ybaf.prog 9 _
      have hwr : w.heap.size ≤ wr.heap.size := (unhide HB).size
      obtain ⟨w1, hw1⟩ : ∃ w1, w1 = wr := ⟨_, rfl⟩
      subst hw1
      have HST : Hid (Below w.heap.size w (w1.alloc (.map #[] 0)) ∧ Seen k c [] (.map [])) := ⟨(unhide HB).alloc (unhide HB).size _, seen_nil k c⟩
      go_wp2
      go_loopw [5, 8] (fun nme pth w2 => ∃ (i : Nat) (L : List Nat) (D3 : DataW Unit) (pa : Option Addr) (cp : Nat), nme = .string (nm i) ∧ pth = .slice pa L.length cp ∧ w2.ownsRow (w1.heap.size + 1) 9 1 pth L.length (names L) ∧ w2.ownsMap Ybaf.prog 9 (plainElem Ybaf.prog 3) w1.heap.size L.length D3 ∧ Hid (i < k ∧ 0 < c i ∧ Below w.heap.size w w2 ∧ Seen k c L D3 ∧ w1.heap.size < w2.heap.size)) (fun _ pth _ => k - lenOf pth)
      case atStart =>
        obtain ⟨i, hi, hp, hs⟩ := unhide HS
        exact ⟨i, [], _, none, 0, by rw [hs], rfl, World.ownsRow_nil _ _ _ _, own3, hi, hp, (unhide HST).1, (unhide HST).2, by simp⟩
      case round =>
        obtain ⟨i, L, D3, pa, cp, rfl, rfl, hrow, hmap, HI⟩ := hrel
        have hkey : keyOf Ybaf.prog 9 (.string (nm i)) = some (ky i) := WideMaps.keyOf_string_mk Ybaf.underlying9 (by show 3 ≤ maxLen; decide)
        by_cases hin : i ∈ L
        · obtain ⟨pp, hpl, hpv⟩ := (unhide HI).2.2.2.1.val i (unhide HI).1 hin
          have hhas : Maps.has D3 (ky i) = true := ((unhide HI).2.2.2.1.has i (unhide HI).1).2 hin
          have hLk : L.length ≤ 301 := seen_len (unhide HI).2.2.2.1 (unhide HC).k1
          have hpa : ∃ g, pa = some ⟨g, 0, none⟩ ∧ L.length ≤ cp := by
            rcases hrow.2 with ⟨_, h0⟩ | ⟨g, cap, cur, e, _, _, hle, _⟩
            · omega
            · simp at e; exact ⟨g, e.1, by omega⟩
          obtain ⟨g, rfl, hcp⟩ := hpa
          have hI := unhide HI
          obtain ⟨m, hm⟩ : ∃ m, m = L.length - pp + 1 := ⟨_, rfl⟩
          obtain ⟨g', o', cap', wA, hrun, hg', hcells, hbA⟩ := append_tail (wr.alloc (.cells #[.string (nm i)] 9)) (w1.heap.size + 1) pp L.length cp g (names L) hpl (hrow.alloc _) hLk (by have := hI.2.2.2.2; simp; omega) (nm i) wr.heap.size (by simp) 25
          rw [← hm] at hrun
          have BA : Hid (Below w.heap.size w wA) := (hI.2.2.1.alloc hI.2.2.1.size _).trans (hbA.mono (by omega))
          have HP : Hid (∀ j, j < m → ∃ i', i' < k ∧ wA.cell? ⟨g', o' + j, none⟩ = some (.string (nm i'))) := fun j hj => by
            obtain ⟨i', hi', e⟩ := path_cells (fun j hj => (hI.2.2.2.1.wait j hj).1) hI.1 hpl j (by omega)
            exact ⟨i', hi', hcells j _ e⟩
          obtain ⟨C, hC, hmk25⟩ := mk25 m (by omega)
          have hatp : ∀ cI : Int, D3.atKey (ky i) (DataW.lit (Lit.int IntKind.i64 0)) = DataW.lit (Lit.int IntKind.i64 cI) → cI = (pp : Int) := fun cI h => by
            rw [hpv] at h; simp at h; omega
          have hm302 : 1 ≤ m ∧ m ≤ 302 := by omega
          have HC0 := hide hC
          have HG := hide hg'
          have HAT := hide hatp
          clear hI hm hC hcells hbA hrow hpv hatp hg' HST own3 hmk HS
          go_wp2_with (first | (at_lookup; refine wpList_lookup_own_ok_int _ rfl _ _ 28 rfl 9 3 .i64 kd Ybaf.underlying28 Ybaf.underlying3 (zero3 _) w1.heap.size L.length D3 rfl hmap _ _ rfl hkey ?_; intro cI hatI hwI; rw [hhas]; have hcI := unhide HAT cI hatI; subst hcI; clear hmap hatI hwI) | (at_builtin; refine wpList_append_run _ rfl (.tmp 47) (.tmp 49) 25 rfl _ _ _ wA rfl rfl hrun ?_) | go_in)
          have H4 : Hid (Below wA.heap.size wA (wA.alloc (.cells C 9)) ∧ ∃ ws : Nat → ByteArray, (∀ t, (ws t).size ≤ 8) ∧ Row (wA.alloc (.cells C 9)) wA.heap.size m (fun t => .string (ws t))) :=
            ⟨(Below.refl _ _).alloc (Nat.le_refl _) _, fun _ => ⟨#[]⟩, fun _ => Nat.zero_le _, Row.new _ _ _ _ _ (unhide HC0)⟩
          go_loopw [95] (fun jj w4 => ∃ j : Nat, j ≤ m ∧ jj = .int .i64 j ∧ Hid (Below wA.heap.size wA w4 ∧ ∃ ws : Nat → ByteArray, (∀ t, (ws t).size ≤ 8) ∧ Row w4 wA.heap.size m (fun t => .string (ws t)))) (fun jj _ => m - (intOf jj).toNat)
          case atStart => exact ⟨0, Nat.zero_le _, rfl, H4⟩
          case round =>
            clear H4
            obtain ⟨j, hjm, rfl, HJ⟩ := hrel
            by_cases hjt : j < m
            · obtain ⟨i', hi', hpc⟩ := unhide HP j hjt
              have hb4 := (unhide HJ).1
              have c1 : wr.cell? ⟨g', o' + j, none⟩ = some (.string (nm i')) := (hb4.cell (p := ⟨g', o' + j, none⟩) (unhide HG)).trans hpc
              have hb5 : Below w.heap.size w wr := (unhide BA).trans (hb4.mono (unhide BA).size)
              have hsel : (Instr.lookup 29 (.map (some bs)) (.string (nm i')) false).run Ybaf.prog wr = .ok (pkg (F i') (V i')) wr :=
                look_pkg ((unhide HC).ms.kept (row := none) (grown_none hb5) (by simp)) (nm i') (by show 3 ≤ maxLen; decide) ((unhide HC).atS i' hi' _)
              have HS6 := hide (string_any (F i') (V i') (nm i') wr (Nat.lt_of_lt_of_le ((unhide HC).fl i' hi') hb5.size) (Nat.lt_of_lt_of_le ((unhide HC).vl i' hi') hb5.size) ((hb5.cell (p := ⟨F i', 2, none⟩) ((unhide HC).fl i' hi')).trans ((unhide HC).cf i' hi')) ((hb5.cell (p := ⟨V i', 0, none⟩) ((unhide HC).vl i' hi')).trans ((unhide HC).cv0 i' hi')) (by show 3 ≤ 1024; decide))
              unfold pkg at hsel
              obtain ⟨ws, hws, hrw⟩ := (unhide HJ).2
              have HB4 := hide hb4
              have HRW := hide hrw
              clear hb4 hb5 hpc hrw HJ
              go_wp2_with fail
              refine (unhide HS6).mono ?_
              rintro e w6 ⟨rfl, hb6⟩
              have r6 := (unhide HRW).below hb6
              have x6 := r6.cell j hjt
              have f6 := r6.froz j hjt
              have hsz : (nm i' ++ (⟨#[64]⟩ : ByteArray) ++ ⟨#[49]⟩).size ≤ 8 := by simp [ByteArray.size_append]; show 3 + 1 + 1 ≤ 8; decide
              generalize nm i' ++ (⟨#[64]⟩ : ByteArray) ++ ⟨#[49]⟩ = str at hsz
              have HR6 := hide r6
              have HB6 := hide hb6
              clear r6 hb6 HS6 hsel c1
              go_wp2
              go_roundw
              case rel =>
                refine ⟨j + 1, hjt, by go_num, ((unhide HB4).trans ((unhide HB6).mono (unhide HB4).size)).setCell (Nat.le_refl _) _, fun t => if t = j then str else ws t, fun t => ?_, ((unhide HR6).set j hjt _).ext (fun t _ => ?_)⟩
                · by_cases e : t = j
                  · simp [e]; exact hsz
                  · simp [e]; exact hws t
                · by_cases e : t = j
                  · simp [e]
                  · simp [e]
              case measure => simp [intOf]; omega
            · obtain ⟨ws, hws, hrw⟩ := (unhide HJ).2
              have hb4 := (unhide HJ).1
              have hb5 : Below w.heap.size w wr := (unhide BA).trans (hb4.mono (unhide BA).size)
              have hjn := join_any wA.heap.size ((List.range m).map ws) ⟨#[32, 45, 62, 32]⟩ wr (fun j x hx => by
                have hjl : j < m := by have := (List.getElem?_eq_some_iff.1 hx).1; simpa using this
                rw [List.getElem?_map, List.getElem?_range hjl] at hx
                simp at hx
                subst hx
                exact hrw.cell j hjl) hrw.lt (by simp; omega) (join_le m hm302.2 ws hws)
              rw [List.length_map, List.length_range] at hjn
              have HJN := hide hjn
              have HB5 := hide hb5
              clear hjn hb5 hb4 hrw hws HJ
              go_wp2_with fail
              refine (unhide HJN).mono ?_
              rintro e w6 ⟨⟨x, rfl⟩, hb6⟩
              have HB6 : Hid (Below w.heap.size w w6) := (unhide HB5).trans (hb6.mono (unhide HB5).size)
              have HE := hide (errorf_any FF x w6.heap.size (w6.alloc (.cells #[.iface 9 (.string x)] 20)) (by rw [show (w6.alloc (.cells #[.iface 9 (.string x)] 20)).tape = w6.tape from rfl, (unhide HB6).tape]; exact hF) (by simp))
              clear hb6 HJN
              go_wp2_with fail
              refine (unhide HE).mono ?_
              rintro e w7 ⟨rfl, hb7⟩
              have HB7 : Hid (Below w.heap.size w w7) := ((unhide HB6).alloc (unhide HB6).size _).trans (hb7.mono (by have := (unhide HB6).size; simp; omega))
              clear hb7 HE
              go_wp2
              go_ret
              exact ⟨⟨_, rfl⟩, unhide HB7⟩
        · have hhas : Maps.has D3 (ky i) = false := by
            have := (unhide HI).2.2.2.1.has i (unhide HI).1
            cases h : Maps.has D3 (ky i) with
            | false => rfl
            | true => exact absurd (this.1 h) hin
          obtain ⟨i9, hi9, hz0, hz1, hz2⟩ := info_parts info9
          have hLk : L.length ≤ 301 := seen_len (unhide HI).2.2.2.1 (unhide HC).k1
          have hL1 : L.length < maxLen := Nat.lt_of_le_of_lt hLk (by decide)
          have hval : plainElem (H := Unit) Ybaf.prog 3 (.int .i64 (L.length : Int)) = some (.lit (.int .i64 (L.length : Int)), []) := plainElem_int Ybaf.underlying3 (by simp [Lit.wf, IntKind.min, IntKind.max, IntKind.signed, IntKind.bits]; omega)
          go_wp2_with (first | (at_lookup; refine wpList_lookup_own_ok_int _ rfl _ _ 28 rfl 9 3 .i64 kd Ybaf.underlying28 Ybaf.underlying3 (zero3 _) w1.heap.size L.length D3 rfl hmap _ _ rfl hkey ?_; intro cI hatI hwI; rw [hhas]) | (at_mapUpdate; refine wpList_mapUpdate_own _ rfl _ _ _ 28 rfl 9 3 kd Ybaf.underlying28 _ w1.heap.size L.length D3 rfl hmap hL1 _ _ (ky i) rfl rfl hkey (.lit (.int .i64 (L.length : Int))) [] hval ?_; intro w2 hmap2 hg2) | (at_builtin; refine wpList_append_lies _ rfl (.tmp 55) (.tmp 57) 25 rfl (w1.heap.size + 1) 9 i9 (.string ⟨#[]⟩) 1 16 Ybaf.underlying25 hi9 hz0 hz1 hz2 rfl (by decide) _ L.length (names L) rfl ((hrow.kept hg2 (own_ne hrow)).alloc _) ⟨w2.heap.size, 0, none⟩ 1 1 [.string (nm i)] rfl rfl ?c1 ?c2 (by decide) ?c3 ?c4 ?c5 _ rfl ?_) | go_in)
          case c1 =>
            intro j u hj
            match j, hj with
            | 0, hj => simp at hj; subst hj; simp [Addr.add]
          case c2 => intro u hu; simp at hu; subst hu; rfl
          case c3 => unfold maxLen; omega
          case c4 => omega
          case c5 =>
            have h5 := (unhide HI).2.2.2.2
            have h6 := hg2.size
            simp; omega
          intro g cap w3 hrow3 hg3 hat3 hlt3
          have hI := unhide HI
          have HB3 : Hid (Below w.heap.size w w3) := by
            have h5 := hI.2.2.2.2
            have hb2 : Below w.heap.size w w2 := hI.2.2.1.grown hg2 hI.2.2.1.size (fun q h => by cases h; exact hwr)
            exact (hb2.alloc hb2.size _).grown hg3 (by have := hb2.size; simp; omega) (fun q h => by have := (hrow.lt q h).1; omega)
          have hmap3 := (hmap2.alloc (.cells #[.string (nm i)] 9)).kept hg3 (fun e => by have := (hrow.lt _ e.symm).1; omega)
          have hsel : (Instr.lookup 29 (.map (some bs)) (.string (nm i)) false).run Ybaf.prog w3 = .ok (pkg (F i) (V i)) w3 :=
            look_pkg ((unhide HC).ms.kept (w' := w3) (row := none) (grown_none (unhide HB3)) (by simp)) (nm i) (by show 3 ≤ maxLen; decide) ((unhide HC).atS i hI.1 _)
          have hv2 : w3.cell? ⟨V i, 2, none⟩ = some (.slice (some ⟨RB i, 0, none⟩) (RN i) (RC i)) := ((unhide HB3).cell (p := ⟨V i, 2, none⟩) ((unhide HC).vl i hI.1)).trans ((unhide HC).cv2 i hI.1 hI.2.1)
          have HR3 := hide (And.intro hrow3 hmap3)
          have HW3 := hide hlt3
          clear hrow hmap hmap2 hg2 hg3 hrow3 hmap3 hat3 hlt3 hI
          unfold pkg at hsel
          have hfd := field_pkg (F i) (V i) w3
          go_wp2
          go_loopw [12, 67] (fun nx jj w4 => ∃ (j : Nat) (s : ByteArray), jj = .int .i64 j ∧ nx = .string s ∧ Hid (j ≤ RN i ∧ Below w3.heap.size w3 w4 ∧ Next k c (Q i) j s)) (fun _ jj _ => RN i - (intOf jj).toNat)
          case atStart => exact ⟨0, _, rfl, rfl, Nat.zero_le _, Below.refl _ _, Or.inl ⟨rfl, fun j h => by omega⟩⟩
          case round =>
            obtain ⟨j, s, rfl, rfl, HJ⟩ := hrel
            by_cases hjt : j < RN i
            · have hI := unhide HI
              obtain ⟨q0, q1, qz⟩ := (unhide HC).cq i hI.1 hI.2.1 j hjt
              obtain ⟨cc, hcat, hcc⟩ := (unhide HC).qat i hI.1 hI.2.1 j hjt
              have hrb := ((unhide HC).rn i hI.1 hI.2.1).2
              have b4 : Below w.heap.size w wr := (unhide HB3).trans ((unhide HJ).2.1.mono (unhide HB3).size)
              have r0 : wr.cell? ⟨RB i, j * 2, none⟩ = some (.string (Q i j)) := (b4.cell (p := ⟨RB i, j * 2, none⟩) hrb).trans q0
              have r1 : wr.cell? ⟨RB i, j * 2 + 1, none⟩ = some (.string ⟨#[]⟩) := (b4.cell (p := ⟨RB i, j * 2 + 1, none⟩) hrb).trans q1
              have hkq : keyOf Ybaf.prog 9 (.string (Q i j)) = some (.string (Q i j).data.toList) := WideMaps.keyOf_string_mk Ybaf.underlying9 qz
              have HB4 := hide b4
              have HCC := hide hcc
              have hrn := ((unhide HC).rn i hI.1 hI.2.1).1
              clear hI q0 q1 b4 hcc
              obtain ⟨qq, hqq⟩ : ∃ qq, qq = Q i j := ⟨_, rfl⟩
              rw [← hqq] at r0 hkq hcat qz HCC
              have HQ := hide hqq
              clear hqq
              have hlk : (Instr.lookup 28 (.map (some bw)) (.string qq) false).run Ybaf.prog (wr.alloc (.cells #[.string qq, .string ⟨#[]⟩] 35)) = .ok (.int .i64 cc) (wr.alloc (.cells #[.string qq, .string ⟨#[]⟩] 35)) :=
                look_int ((unhide HC).mw.kept (row := none) (grown_none ((unhide HB4).alloc (unhide HB4).size _)) (by simp)) qq qz hcat
              have HAT := hide hcat
              have HBJ : Hid (Below w3.heap.size w3 (wr.alloc (.cells #[.string qq, .string ⟨#[]⟩] 35))) := (unhide HJ).2.1.alloc (unhide HJ).2.1.size _
              clear hkq hcat qz
              by_cases hpc : 0 < cc
              · have HY : Hid (Next k c (Q i) (j + 1) qq) := Or.inr (unhide HCC hpc)
                have hh := (unhide HJ).2.2
                rcases hh with ⟨hs0, _⟩ | ⟨i', hi', hp', hs0⟩
                · subst hs0
                  go_wp2
                  go_roundw
                  case rel => exact ⟨j + 1, qq, by push_cast; rfl, rfl, hjt, unhide HBJ, unhide HY⟩
                  case measure => simp [intOf]; omega
                · have hne3 : ¬ s.toList = [] := by rw [hs0, Lib.toList_data]; simp [nm]
                  have hne1 : (s.toList == []) = false := by simp [hne3]
                  have hne2 : s.toList.isEmpty = false := by simp [hne3]
                  have hne4 : (s.toList == (⟨#[]⟩ : ByteArray).toList) = false := by rw [Lib.toList_data (⟨#[]⟩ : ByteArray)]; simpa using hne3
                  have HS0 : Hid (Next k c (Q i) (j + 1) s) := Or.inr ⟨i', hi', hp', hs0⟩
                  clear hs0
                  cases hb : Op.bytesLess qq.toList s.toList with
                  | true =>
                    go_wp2
                    go_roundw
                    case rel => exact ⟨j + 1, qq, by push_cast; rfl, rfl, hjt, unhide HBJ, unhide HY⟩
                    case measure => simp [intOf]; omega
                  | false =>
                    go_wp2
                    go_roundw
                    case rel => exact ⟨j + 1, s, by push_cast; rfl, rfl, hjt, unhide HBJ, unhide HS0⟩
                    case measure => simp [intOf]; omega
              · have HN : Hid (Next k c (Q i) (j + 1) s) := next_no (unhide HC) (unhide HQ) (unhide HAT) hpc (unhide HJ).2.2
                go_wp2
                go_roundw
                case rel => exact ⟨j + 1, s, by push_cast; rfl, rfl, hjt, unhide HBJ, unhide HN⟩
                case measure => simp [intOf]; omega
            · have hI := unhide HI
              have hend := next_end (unhide HC) hI.1 hI.2.1 (by omega) (unhide HJ).2.2
              obtain ⟨i', hi', hp', hs'⟩ := hend
              have HS' := hide hs'
              clear hs' hI
              go_wp2
              go_roundw
              case rel =>
                have hI := unhide HI
                have b4 := (unhide HJ).2.1
                have hs4 := b4.size
                have hlen : (L ++ [i]).length = L.length + 1 := by simp
                refine ⟨i', L ++ [i], _, some ⟨g, 0, none⟩, cap, by rw [unhide HS'], by rw [hlen], ?_, by rw [hlen]; exact (unhide HR3).2.kept (grown_none b4) (by simp), hi', hp', (unhide HB3).trans (b4.mono (unhide HB3).size), seen_put hI.2.2.2.1 (unhide HC).k1 hI.1 hI.2.1 hin, ?_⟩
                · have := (unhide HR3).1.kept (grown_none b4) (.inr (by simp [Value.ownBlock]))
                  rw [hlen]
                  simpa [names] using this
                · have := (unhide HR3).2.lt
                  omega
              case measure =>
                have hl := seen_put_len (unhide HI).2.2.2.1 (unhide HI).1 hin
                simp [lenOf]; omega
    · intro x c' kl a b w' cnt' hkey hlk hv hat hrg' hlt hgr hsz hen
      obtain ⟨i, hi, hx, hci⟩ := met (unhide HC) (unhide HR).2 hkey hlk hv hat
      subst hx
      have HN : Hid (Below w.heap.size w w') := (unhide HR).1.grown hgr (by have := (unhide HR).1.size; omega) (fun q h => by cases h; exact Nat.le_refl _)
      have hle := hrg'.left_eq
      have hle0 := hrg.left_eq
      have HP := hide (fun (t : ByteArray) (h : Held Dw k c (fun z => left z && !z.sameKey kl) t) => h)
      have hyes : Hid (∀ j, j < k → 0 < c j → Held Dw k c (fun z => left z && !z.sameKey kl) (nm j)) := fun j hj hp => ⟨fun z hz => (unhide HR).2.1 z (by simp at hz; exact hz.1), Or.inr ⟨j, hj, hp, rfl⟩⟩
      by_cases hpos : 0 < c'
      · have hh := (unhide HR).2.2
        rcases hh with ⟨hs0, _⟩ | ⟨i', hi', hp', hs0⟩
        · subst hs0
          go_wp2
          go_roundw
          case rel => exact ⟨_, _, _, rfl, hrg', unhide HN, unhide hyes i hi (by omega)⟩
          case measure => rw [hle, hle0]; exact hlt
        · have hne3 : ¬ s.toList = [] := by rw [hs0, Lib.toList_data]; simp [nm]
          have hne1 : (s.toList == []) = false := by simp [hne3]
          have hne2 : s.toList.isEmpty = false := by simp [hne3]
          have hne4 : (s.toList == (⟨#[]⟩ : ByteArray).toList) = false := by rw [Lib.toList_data (⟨#[]⟩ : ByteArray)]; simpa using hne3
          have HS0 := hide hs0
          clear hs0
          cases hb : Op.bytesLess (nm i).toList s.toList with
          | true =>
            go_wp2
            go_roundw
            case rel => exact ⟨_, _, _, rfl, hrg', unhide HN, unhide hyes i hi (by omega)⟩
            case measure => rw [hle, hle0]; exact hlt
          | false =>
            go_wp2
            go_roundw
            case rel => exact ⟨_, _, s, rfl, hrg', unhide HN, by rw [unhide HS0]; exact unhide hyes i' hi' hp'⟩
            case measure => rw [hle, hle0]; exact hlt
      · go_wp2
        go_roundw
        case rel => exact ⟨_, _, s, rfl, hrg', unhide HN, heldNo (unhide HC) (unhide HR).2 hkey hi hci hpos⟩
        case measure => rw [hle, hle0]; exact hlt
end Go.Proofs.YbulkdabsFmt.Cy
