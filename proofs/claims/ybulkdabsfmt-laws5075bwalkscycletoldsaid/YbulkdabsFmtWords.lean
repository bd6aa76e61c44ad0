/-
  LawS5075BWalksCycle (3): THE WORDS OF ITS LOOPS.
-/
import Derived.Test.YbulkdabsFmtCyc
namespace Go.Proofs.YbulkdabsFmt.Fn
open Go.ChangeShapes Go.WideShapes Go.ChangeAt Go.RowKit Go.Maps Go.Proofs.YbulkdabsFmt.Nm Go.Proofs.YbulkdabsFmt.Mp Go.Proofs.YbulkdabsFmt.Rw Go.Proofs.YbulkdabsFmt.Cy

/-- A map with the first i names for keys. -/
def wD (v : Nat → DataW Unit) : Nat → DataW Unit
  | 0 => .map []
  | i + 1 => (wD v i).put (ky i) (v i)
theorem wD_tidy (v : Nat → DataW Unit) : ∀ i, Tidy (wD v i)
  | 0 => tidy_empty
  | i + 1 => (wD_tidy v i).put (k := ky i) trivial _
theorem wD_not (v : Nat → DataW Unit) (kl : Lit) : ∀ i, (∀ j, j < i → kl ≠ ky j) → has (wD v i) kl = false
  | 0, _ => rfl
  | i + 1, h => by
    show has ((wD v i).put (ky i) (v i)) kl = false
    rw [has_put_other (h i (by omega))]
    exact wD_not v kl i (fun j hj => h j (by omega))
theorem wD_has (v : Nat → DataW Unit) (j : Nat) : ∀ i, j < i → has (wD v i) (ky j) = true
  | 0, h => by omega
  | i + 1, h => by
    show has ((wD v i).put (ky i) (v i)) (ky j) = true
    by_cases e : ky j = ky i
    · rw [e]; exact has_put_same (wD_tidy v i).isMap (k := ky i) trivial _
    · rw [has_put_other e]
      exact wD_has v j i (by
        have : j ≠ i := fun q => e (by rw [q])
        omega)
theorem wD_key (v : Nat → DataW Unit) {kl : Lit} {i : Nat} (h : has (wD v i) kl = true) : ∃ j, j < i ∧ kl = ky j := by
  by_cases hh : ∃ j, j < i ∧ kl = ky j
  · exact hh
  · have := wD_not v kl i (fun j hj e => hh ⟨j, hj, e⟩)
    rw [this] at h; cases h
theorem wD_at (v : Nat → DataW Unit) (j : Nat) (zd : DataW Unit) : ∀ i, i ≤ 301 → j < i → (wD v i).atKey (ky j) zd = v j
  | 0, _, h => by omega
  | i + 1, hi, h => by
    show ((wD v i).put (ky i) (v i)).atKey (ky j) zd = v j
    by_cases e : j = i
    · subst e; exact atKey_put_same (wD_tidy v j).isMap (k := ky j) trivial _ _
    · rw [atKey_put_other (ky_ne (by omega) (by omega) e)]
      exact wD_at v j zd i (by omega) (by omega)
theorem wD_congr {v v' : Nat → DataW Unit} : ∀ i, (∀ j, j < i → v j = v' j) → wD v i = wD v' i
  | 0, _ => rfl
  | i + 1, h => by
    show (wD v i).put (ky i) (v i) = (wD v' i).put (ky i) (v' i)
    rw [wD_congr i (fun j hj => h j (by omega)), h i (by omega)]
theorem wD_size (v : Nat → DataW Unit) : ∀ i, i ≤ 301 → Maps.size (wD v i) = i
  | 0, _ => rfl
  | i + 1, h => by
    show Maps.size ((wD v i).put (ky i) (v i)) = i + 1
    rw [size_put (wD_tidy v i), wD_not v (ky i) i (fun j hj => ky_ne (by omega) (by omega) (by omega)), wD_size v i (by omega)]
    rfl

/-- Who waits, and for how much. -/
def isW (N NF : Nat) (Fl : Nat → Bool) (i : Nat) : Bool := i == N || (decide (i < NF) && Fl i)
def cn (N NF : Nat) (Fl : Nat → Bool) (NC : Nat) (Ct : Nat → Int) (i : Nat) : Int := if isW N NF Fl i then 1 + (if i < NC then Ct i else 0) else 0

/-- The three arguments as they lie. -/
structure Inp (w : World) (a0 : Option Addr) (N : Nat) (A : Nat → Option Addr) (L C : Nat → Nat) (U : Nat → Nat → Int) (a1 : Option Addr) (NF : Nat) (Fl : Nat → Bool) (a2 : Option Addr) (NC : Nat) (Ct : Nat → Int) : Prop where
  r0 : 0 < N → ∃ b off, a0 = some ⟨b, off, none⟩ ∧ b < w.heap.size ∧ ∀ r, r < N → w.cell? ⟨b, off + r, none⟩ = some (.slice (A r) (L r) (C r))
  r1 : ∀ r, r < N → 0 < L r → ∃ b off, A r = some ⟨b, off, none⟩ ∧ b < w.heap.size ∧ ∀ c, c < L r → w.cell? ⟨b, off + c, none⟩ = some (.int .u8 (U r c))
  ub : ∀ r c, 0 ≤ U r c ∧ U r c ≤ 255
  fl : 0 < NF → ∃ b off, a1 = some ⟨b, off, none⟩ ∧ b < w.heap.size ∧ ∀ i, i < NF → w.cell? ⟨b, off + i, none⟩ = some (.bool (Fl i))
  ct : 0 < NC → ∃ b off, a2 = some ⟨b, off, none⟩ ∧ b < w.heap.size ∧ ∀ i, i < NC → w.cell? ⟨b, off + i, none⟩ = some (.int .u8 (Ct i))
  cb : ∀ i, 0 ≤ Ct i ∧ Ct i ≤ 255

/-- The first i are laid. -/
def upto (f : Nat → Value) (z : Value) (i j : Nat) : Value := if j < i then f j else z
theorem upto_step (f : Nat → Value) (z : Value) (i j : Nat) : (if j = i then f i else upto f z i j) = upto f z (i + 1) j := by
  unfold upto
  by_cases h : j = i
  · subst h; simp
  · rw [if_neg h]
    by_cases h2 : j < i
    · rw [if_pos h2, if_pos (by omega)]
    · rw [if_neg h2, if_neg (by omega)]
theorem upto_same (f : Nat → Value) (z : Value) (i j : Nat) (h : f i = z) : upto f z i j = upto f z (i + 1) j := by
  rw [← upto_step]
  by_cases e : j = i
  · subst e; rw [if_pos rfl, h]; simp [upto]
  · rw [if_neg e]
theorem upto_all (f : Nat → Value) (z : Value) {i j : Nat} (h : j < i) : upto f z i j = f j := if_pos h
theorem upto_zero (f : Nat → Value) (z : Value) (j : Nat) : upto f z 0 j = z := if_neg (by omega)

def nmv (j : Nat) : Value := .string (nm j)

/-- Loop 3: rows i laid, map m laid. -/
structure S3 (w1 : World) (k i m : Nat) (W : Nat → Bool) (c : Nat → Int) (wr : World) : Prop where
  bel : Below w1.heap.size w1 wr
  rW : Row wr w1.heap.size k (upto (fun j => .bool (W j)) (.bool false) i)
  rC : Row wr (w1.heap.size + 1) k (upto (fun j => .int .i64 (c j)) (.int .i64 0) i)
  mp : wr.ownsMap Ybaf.prog 9 (plainElem Ybaf.prog 3) (w1.heap.size + 2) m (wD (fun j => .lit (.int .i64 (c j))) m)
theorem S3.both {w1 : World} {k i m : Nat} {W : Nat → Bool} {c : Nat → Int} {wr : World} (h : S3 w1 k i m W c wr) (hi : i < k) :
    S3 w1 k (i + 1) m W c ((wr.setCell ⟨w1.heap.size, i, none⟩ (.bool (W i))).setCell ⟨w1.heap.size + 1, i, none⟩ (.int .i64 (c i))) where
  bel := (h.bel.setCell (Nat.le_refl _) _).setCell (by show w1.heap.size ≤ w1.heap.size + 1; omega) _
  rW := ((h.rW.set i hi _).other ⟨_, _, _⟩ (by dsimp only; omega) _).ext (fun j _ => upto_step _ _ i j)
  rC := ((h.rC.other ⟨_, _, _⟩ (by dsimp only; omega) _).set i hi _).ext (fun j _ => upto_step _ _ i j)
  mp := (h.mp.setCell (by show w1.heap.size + 2 ≠ w1.heap.size; omega) _).setCell (by show w1.heap.size + 2 ≠ w1.heap.size + 1; omega) _
theorem S3.one {w1 : World} {k i m : Nat} {W : Nat → Bool} {c : Nat → Int} {wr : World} (h : S3 w1 k i m W c wr) (hi : i < k) (hc : c i = 0) :
    S3 w1 k (i + 1) m W c (wr.setCell ⟨w1.heap.size, i, none⟩ (.bool (W i))) where
  bel := h.bel.setCell (Nat.le_refl _) _
  rW := (h.rW.set i hi _).ext (fun j _ => upto_step _ _ i j)
  rC := (h.rC.other ⟨_, _, _⟩ (by dsimp only; omega) _).ext (fun j _ => upto_same _ _ i j (by rw [hc]))
  mp := h.mp.setCell (by show w1.heap.size + 2 ≠ w1.heap.size; omega) _
theorem S3.map {w1 : World} {k i : Nat} {W : Nat → Bool} {c : Nat → Int} {wr w' : World} (h : S3 w1 k (i + 1) i W c wr) (hm : w'.ownsMap Ybaf.prog 9 (plainElem Ybaf.prog 3) (w1.heap.size + 2) (i + 1) ((wD (fun j => .lit (.int .i64 (c j))) i).put (ky i) (.lit (.int .i64 (c i)))))
    (hg : wr.grownBy w' (some (w1.heap.size + 2))) : S3 w1 k (i + 1) (i + 1) W c w' where
  bel := h.bel.grown hg h.bel.size (fun q e => by cases e; omega)
  rW := h.rW.grown hg (by simp)
  rC := h.rC.grown hg (by simp)
  mp := hm
theorem S3.below {w1 : World} {k i m : Nat} {W : Nat → Bool} {c : Nat → Int} {wr w' : World} (h : S3 w1 k i m W c wr) (hb : Below wr.heap.size wr w') : S3 w1 k i m W c w' where
  bel := h.bel.trans (hb.mono h.bel.size)
  rW := h.rW.below hb
  rC := h.rC.below hb
  mp := h.mp.kept (row := none) (grown_none hb) (by simp)

/-- One package as it lies. -/
structure En where
  f : Nat
  v : Nat
  rb : Nat
  rc : Nat
  lb : Nat
  lc : Nat
  rn : Nat
  q : Nat → ByteArray
instance : Inhabited En := ⟨⟨0, 0, 0, 0, 0, 0, 0, fun _ => ⟨#[]⟩⟩⟩
def slv (b n c : Nat) : Value := if n = 0 then .slice none 0 0 else .slice (some ⟨b, 0, none⟩) n c
def Okq (k : Nat) (s : ByteArray) : Prop := (∃ i, i < k ∧ s = nm i) ∨ s = ⟨#[97, 48]⟩ ∨ s = ⟨#[97, 49]⟩
structure Ent (w : World) (lo k : Nat) (W : Nat → Bool) (j : Nat) (e : En) : Prop where
  flo : lo ≤ e.f
  vlo : lo ≤ e.v
  fhi : e.f < w.heap.size
  vhi : e.v < w.heap.size
  cf : w.cell? ⟨e.f, 2, none⟩ = some (.string (nm j))
  cv0 : w.cell? ⟨e.v, 0, none⟩ = some (.string ⟨#[49]⟩)
  cv2 : w.cell? ⟨e.v, 2, none⟩ = some (slv e.rb e.rn e.rc)
  rn : e.rn ≤ 1025
  blk : 0 < e.rn → (lo ≤ e.rb ∧ e.rb < w.heap.size) ∧ lo ≤ e.lb ∧ e.lb < w.heap.size
  cq : ∀ t, t < e.rn → w.cell? ⟨e.rb, t * 2, none⟩ = some (.string (e.q t)) ∧ w.cell? ⟨e.rb, t * 2 + 1, none⟩ = some (.string ⟨#[]⟩)
  cl : ∀ t, t < e.rn → w.cell? ⟨e.lb, t, none⟩ = some (.string (e.q t))
  ok : ∀ t, t < e.rn → Okq k (e.q t)
  wt : W j = true → ∃ t, t < e.rn ∧ ∃ i', i' < k ∧ W i' = true ∧ e.q t = nm i'
theorem Ent.same {w w' : World} {lo k : Nat} {W : Nat → Bool} {j : Nat} {e : En} (h : Ent w lo k W j e) (hs : w.heap.size ≤ w'.heap.size) (hb : ∀ b, lo ≤ b → b < w.heap.size → w'.heap[b]? = w.heap[b]?) : Ent w' lo k W j e := by
  have cc : ∀ b o, lo ≤ b → b < w.heap.size → w'.cell? ⟨b, o, none⟩ = w.cell? ⟨b, o, none⟩ := fun b o h1 h2 => World.cell?_of_block (w := w) (hb b h1 h2)
  exact ⟨h.flo, h.vlo, Nat.lt_of_lt_of_le h.fhi hs, Nat.lt_of_lt_of_le h.vhi hs, (cc _ _ h.flo h.fhi).trans h.cf, (cc _ _ h.vlo h.vhi).trans h.cv0, (cc _ _ h.vlo h.vhi).trans h.cv2, h.rn,
    fun hp => ⟨⟨(h.blk hp).1.1, Nat.lt_of_lt_of_le (h.blk hp).1.2 hs⟩, (h.blk hp).2.1, Nat.lt_of_lt_of_le (h.blk hp).2.2 hs⟩,
    fun t ht => ⟨(cc _ _ (h.blk (by omega)).1.1 (h.blk (by omega)).1.2).trans (h.cq t ht).1, (cc _ _ (h.blk (by omega)).1.1 (h.blk (by omega)).1.2).trans (h.cq t ht).2⟩,
    fun t ht => (cc _ _ (h.blk (by omega)).2.1 (h.blk (by omega)).2.2).trans (h.cl t ht), h.ok, h.wt⟩
theorem Ent.below {w w' : World} {lo k : Nat} {W : Nat → Bool} {j : Nat} {e : En} (h : Ent w lo k W j e) (hb : Below w.heap.size w w') : Ent w' lo k W j e := h.same hb.size (fun b _ h2 => hb.block b h2)
theorem Ent.grown {w w' : World} {lo k : Nat} {W : Nat → Bool} {j : Nat} {e : En} {b0 : Nat} (h : Ent w lo k W j e) (hg : w.grownBy w' (some b0)) (h0 : b0 < lo) : Ent w' lo k W j e := h.same hg.size (fun b h1 h2 => hg.block b h2 (by simp; omega))
theorem Ent.set {w : World} {lo k : Nat} {W : Nat → Bool} {j : Nat} {e : En} (h : Ent w lo k W j e) (a : Addr) (h0 : a.block < lo) (v : Value) : Ent (w.setCell a v) lo k W j e :=
  h.same (by simp [World.setCell]) (fun b h1 _ => Below.heap_setCell w a v b (by omega))

/-- Requirements as they are gathered: rs from qr, ls from ql. -/
def flat (qs : List ByteArray) : List Value := qs.flatMap fun q => [.string q, .string ⟨#[]⟩]
def strs (qs : List ByteArray) : List Value := qs.map .string
structure S5 (w5 : World) (k : Nat) (qr ql : List ByteArray) (rs ls : Value) (wr : World) : Prop where
  bel : Below w5.heap.size w5 wr
  r : wr.ownsRow w5.heap.size 35 2 rs qr.length (flat qr)
  l : wr.ownsRow w5.heap.size 9 1 ls ql.length (strs ql)
  ne : ∀ b, rs.ownBlock = some b → ls.ownBlock ≠ some b
  rnil : qr = [] → rs = .slice none 0 0
  lnil : ql = [] → ls = .slice none 0 0
  ok : ∀ q, q ∈ qr → Okq k q
theorem S5.start (w5 : World) (k : Nat) : S5 w5 k [] [] (.slice none 0 0) (.slice none 0 0) w5 :=
  ⟨Below.refl _ _, World.ownsRow_nil _ _ _ _, World.ownsRow_nil _ _ _ _, fun b h => by simp [Value.ownBlock] at h, fun _ => rfl, fun _ => rfl, fun q h => by simp at h⟩
theorem S5.rstep {w5 : World} {k : Nat} {qr ql : List ByteArray} {rs ls : Value} {wr w' : World} (h : S5 w5 k qr ql rs ls wr) {p : ByteArray} (hp : Okq k p) {o : Obj} {g cap : Nat}
    (hr : w'.ownsRow w5.heap.size 35 2 (.slice (some ⟨g, 0, none⟩) (qr.length + 1) cap) (qr.length + 1) (flat qr ++ [.string p, .string ⟨#[]⟩])) (hg : (wr.alloc o).grownBy w' rs.ownBlock) (hat : rs.ownBlock = some g ∨ g = (wr.alloc o).heap.size) :
    S5 w5 k (qr ++ [p]) ql (.slice (some ⟨g, 0, none⟩) (qr.length + 1) cap) ls w' where
  bel := (h.bel.alloc h.bel.size o).grown hg (by have := h.bel.size; simp; omega) (fun q e => (h.r.lt q e).1)
  r := by simpa [flat] using hr
  l := (h.l.alloc o).kept hg (by
    cases hl : ls.ownBlock with
    | none => exact .inl rfl
    | some b => exact .inr (fun e => h.ne b e.symm hl))
  ne := fun b hb hl => by
    simp [Value.ownBlock] at hb
    subst hb
    rcases hat with e | e
    · exact h.ne g e hl
    · have := (h.l.lt g hl).2
      simp at e; omega
  rnil := fun e => by simp at e
  lnil := h.lnil
  ok := fun q hq => by
    rcases List.mem_append.1 hq with hq | hq
    · exact h.ok q hq
    · simp at hq; subst hq; exact hp
theorem S5.lstep {w5 : World} {k : Nat} {qr ql : List ByteArray} {rs ls : Value} {wr w' : World} (h : S5 w5 k qr ql rs ls wr) {p : ByteArray} {o : Obj} {g cap : Nat}
    (hr : w'.ownsRow w5.heap.size 9 1 (.slice (some ⟨g, 0, none⟩) (ql.length + 1) cap) (ql.length + 1) (strs ql ++ [.string p])) (hg : (wr.alloc o).grownBy w' ls.ownBlock) (hat : ls.ownBlock = some g ∨ g = (wr.alloc o).heap.size) :
    S5 w5 k qr (ql ++ [p]) rs (.slice (some ⟨g, 0, none⟩) (ql.length + 1) cap) w' where
  bel := (h.bel.alloc h.bel.size o).grown hg (by have := h.bel.size; simp; omega) (fun q e => (h.l.lt q e).1)
  r := (h.r.alloc o).kept hg (by
    cases hl : rs.ownBlock with
    | none => exact .inl rfl
    | some b => exact .inr (fun e => h.ne b hl e.symm))
  l := by simpa [strs] using hr
  ne := fun b hb hl => by
    simp [Value.ownBlock] at hl
    subst hl
    rcases hat with e | e
    · exact h.ne g hb e
    · have := (h.r.lt g hb).2
      simp at e; omega
  rnil := h.rnil
  lnil := fun e => by simp at e
  ok := h.ok
theorem flat_get : ∀ (qs : List ByteArray) (t : Nat) (q : ByteArray), qs[t]? = some q → (flat qs)[t * 2]? = some (.string q) ∧ (flat qs)[t * 2 + 1]? = some (.string ⟨#[]⟩)
  | [], t, q, h => by simp at h
  | x :: r, 0, q, h => by
    simp at h; subst h
    simp [flat]
  | x :: r, t + 1, q, h => by
    have := flat_get r t q (by simpa using h)
    have e1 : (t + 1) * 2 = t * 2 + 2 := by omega
    have e2 : (t + 1) * 2 + 1 = t * 2 + 1 + 2 := by omega
    have e3 : flat (x :: r) = .string x :: .string ⟨#[]⟩ :: flat r := by simp [flat]
    rw [e3, e2, e1]
    simpa using this

/-- The outside names. -/
def outv (j : Nat) : Value := if j = 0 then .string ⟨#[97, 48]⟩ else .string ⟨#[97, 49]⟩
/-- Loop 4: rows i laid, map m laid. -/
structure S4 (w3 : World) (k i m : Nat) (W : Nat → Bool) (E : Nat → En) (wr : World) : Prop where
  bel : Below w3.heap.size w3 wr
  out : Row wr w3.heap.size 2 outv
  mp : wr.ownsMap Ybaf.prog 9 RP (w3.heap.size + 1) m (wD (fun j => pd (E j).f (E j).v) m)
  rv : Row wr (w3.heap.size + 2) k (upto (fun j => .pointer (some ⟨(E j).v, 0, none⟩)) (.pointer none) i)
  rf : Row wr (w3.heap.size + 3) k (upto (fun j => .pointer (some ⟨(E j).f, 0, none⟩)) (.pointer none) i)
  rl : Row wr (w3.heap.size + 4) k (upto (fun j => slv (E j).lb (E j).rn (E j).lc) (.slice none 0 0) i)
  ent : ∀ j, j < m → Ent wr (w3.heap.size + 5) k W j (E j)
theorem S4.below {w3 : World} {k i m : Nat} {W : Nat → Bool} {E : Nat → En} {wr w' : World} (h : S4 w3 k i m W E wr) (hb : Below wr.heap.size wr w') : S4 w3 k i m W E w' where
  bel := h.bel.trans (hb.mono h.bel.size)
  out := h.out.below hb
  mp := h.mp.kept (row := none) (grown_none hb) (by simp)
  rv := h.rv.below hb
  rf := h.rf.below hb
  rl := h.rl.below hb
  ent := fun j hj => (h.ent j hj).below hb
theorem S4.rows {w3 : World} {k i : Nat} {W : Nat → Bool} {E : Nat → En} {wr : World} (h : S4 w3 k i (i + 1) W E wr) (hi : i < k) :
    S4 w3 k (i + 1) (i + 1) W E (((wr.setCell ⟨w3.heap.size + 2, i, none⟩ (.pointer (some ⟨(E i).v, 0, none⟩))).setCell ⟨w3.heap.size + 3, i, none⟩ (.pointer (some ⟨(E i).f, 0, none⟩))).setCell ⟨w3.heap.size + 4, i, none⟩ (slv (E i).lb (E i).rn (E i).lc)) where
  bel := ((h.bel.setCell (by show w3.heap.size ≤ w3.heap.size + 2; omega) _).setCell (by show w3.heap.size ≤ w3.heap.size + 3; omega) _).setCell (by show w3.heap.size ≤ w3.heap.size + 4; omega) _
  out := ((h.out.other ⟨_, _, _⟩ (by dsimp only; omega) _).other ⟨_, _, _⟩ (by dsimp only; omega) _).other ⟨_, _, _⟩ (by dsimp only; omega) _
  mp := ((h.mp.setCell (by show w3.heap.size + 1 ≠ w3.heap.size + 2; omega) _).setCell (by show w3.heap.size + 1 ≠ w3.heap.size + 3; omega) _).setCell (by show w3.heap.size + 1 ≠ w3.heap.size + 4; omega) _
  rv := (((h.rv.set i hi _).other ⟨_, _, _⟩ (by dsimp only; omega) _).other ⟨_, _, _⟩ (by dsimp only; omega) _).ext (fun j _ => upto_step (fun j => .pointer (some ⟨(E j).v, 0, none⟩)) _ i j)
  rf := (((h.rf.other ⟨_, _, _⟩ (by dsimp only; omega) _).set i hi _).other ⟨_, _, _⟩ (by dsimp only; omega) _).ext (fun j _ => upto_step (fun j => .pointer (some ⟨(E j).f, 0, none⟩)) _ i j)
  rl := (((h.rl.other ⟨_, _, _⟩ (by dsimp only; omega) _).other ⟨_, _, _⟩ (by dsimp only; omega) _).set i hi _).ext (fun j _ => upto_step (fun j => slv (E j).lb (E j).rn (E j).lc) _ i j)
  ent := fun j hj => (((h.ent j hj).set ⟨_, _, _⟩ (by dsimp only; omega) _).set ⟨_, _, _⟩ (by dsimp only; omega) _).set ⟨_, _, _⟩ (by dsimp only; omega) _

theorem upto_congr {f g : Nat → Value} {z : Value} {i : Nat} (h : ∀ j, j < i → f j = g j) (j : Nat) : upto f z i j = upto g z i j := by
  unfold upto
  by_cases e : j < i
  · rw [if_pos e, if_pos e, h j e]
  · rw [if_neg e, if_neg e]

/-- What a gathered slice looks like. -/
theorem own_slv {w : World} {base : Nat} {e : TypeId} {size : Nat} {v : Value} {n : Nat} {xs : List Value} (h : w.ownsRow base e size v n xs) (h0 : n = 0 → v = .slice none 0 0) :
    ∃ b c, v = slv b n c ∧ (0 < n → base ≤ b ∧ b < w.heap.size ∧ ∀ j u, xs[j]? = some u → w.cell? ⟨b, j, none⟩ = some u) := by
  by_cases hn : n = 0
  · exact ⟨0, 0, by rw [h0 hn]; simp [slv, hn], fun hp => by omega⟩
  · obtain ⟨g, cap, rfl, hb, hlt⟩ := h.form (by omega)
    refine ⟨g, cap, by simp [slv, hn], fun _ => ⟨hb, hlt, fun j u hu => ?_⟩⟩
    have := h.cells (g := g) rfl j u hu
    rwa [Addr.add_lit, Nat.zero_add] at this

theorem S4.upd {w3 : World} {k i : Nat} {W : Nat → Bool} {E : Nat → En} {wr0 wr : World} {qs : List ByteArray} {rs ls : Value} (h : S4 w3 k i i W E wr0) (h5 : S5 wr0 k qs qs rs ls wr) (hq : qs.length ≤ 1025)
    (hw : W i = true → ∃ i', i' < k ∧ W i' = true ∧ nm i' ∈ qs) (hi : i ≤ 300) (FC : Array Value) (hFC : FC[2]? = some (.string (nm i))) :
    ∃ w6 E', (Instr.mapUpdate 29 (.map (some (w3.heap.size + 1))) (.string (nm i)) (pkg (wr.heap.size + 1) wr.heap.size)).run Ybaf.prog ((wr.alloc (.cells #[.string ⟨#[49]⟩, .slice none 0 0, rs] 39)).alloc (.cells FC 47)) = .ok () w6 ∧
      S4 w3 k i (i + 1) W E' w6 ∧ (E' i).v = wr.heap.size ∧ (E' i).f = wr.heap.size + 1 ∧ slv (E' i).lb (E' i).rn (E' i).lc = ls := by
  have hlo : w3.heap.size + 5 ≤ wr0.heap.size := h.rl.lt
  have hlo1 : wr0.heap.size ≤ wr.heap.size := h5.bel.size
  obtain ⟨rb, rc, ers, hrb⟩ := own_slv h5.r (fun e => h5.rnil (List.eq_nil_of_length_eq_zero e))
  obtain ⟨lb, lc, els, hlb⟩ := own_slv h5.l (fun e => h5.lnil (List.eq_nil_of_length_eq_zero e))
  obtain ⟨wv, hwv⟩ : ∃ wv, wv = (wr.alloc (.cells #[.string ⟨#[49]⟩, .slice none 0 0, rs] 39)).alloc (.cells FC 47) := ⟨_, rfl⟩
  have bv : Below wr.heap.size wr wv := by rw [hwv]; exact ((Below.refl _ _).alloc (Nat.le_refl _) _).alloc (by simp) _
  have hsv : wv.heap.size = wr.heap.size + 2 := by rw [hwv]; simp
  have b0 : Below wr0.heap.size wr0 wv := h5.bel.trans (bv.mono hlo1)
  have h1 := h.below b0
  rw [← hwv]
  obtain ⟨w6, hrun, hm, hg⟩ := h1.mp.update (key := .string (nm i)) (val := pkg (wr.heap.size + 1) wr.heap.size) kd Ybaf.underlying29 (Nat.lt_of_le_of_lt hi (by decide)) (WideMaps.keyOf_string_mk Ybaf.underlying9 (show (nm i).size ≤ maxLen by show 3 ≤ maxLen; decide)) (RP_pkg _ _)
  have hgc : ∀ b o v, w3.heap.size + 5 ≤ b → wv.cell? ⟨b, o, none⟩ = some v → w6.cell? ⟨b, o, none⟩ = some v := fun b o v hb hv => hg.cell hv (by simp; omega)
  have hs6 := hg.size
  refine ⟨w6, fun j => if j = i then ⟨wr.heap.size + 1, wr.heap.size, rb, rc, lb, lc, qs.length, fun t => qs.getD t ⟨#[]⟩⟩ else E j, hrun, ?_, by simp, by simp, by simp [els]⟩
  have he : ∀ j, j < i → (if j = i then (⟨wr.heap.size + 1, wr.heap.size, rb, rc, lb, lc, qs.length, fun t => qs.getD t ⟨#[]⟩⟩ : En) else E j) = E j := fun j hj => if_neg (by omega)
  refine ⟨h1.bel.grown hg h1.bel.size (fun q e => by cases e; omega), h1.out.grown hg (by simp), ?_, ?_, ?_, ?_, fun j hj => ?_⟩
  · show w6.ownsMap Ybaf.prog 9 RP (w3.heap.size + 1) (i + 1) ((wD _ i).put (ky i) _)
    rw [wD_congr (v' := fun j => pd (E j).f (E j).v) i (fun j hj => by rw [he j hj])]
    simp only [if_true]
    exact hm
  · exact (h1.rv.grown hg (by simp)).ext (fun j _ => upto_congr (fun j hj => by rw [he j hj]) j)
  · exact (h1.rf.grown hg (by simp)).ext (fun j _ => upto_congr (fun j hj => by rw [he j hj]) j)
  · exact (h1.rl.grown hg (by simp)).ext (fun j _ => upto_congr (fun j hj => by rw [he j hj]) j)
  · by_cases e : j = i
    · subst e
      rw [if_pos rfl]
      have cv : ∀ o v, (#[.string ⟨#[49]⟩, .slice none 0 0, rs] : Array Value)[o]? = some v → wv.cell? ⟨wr.heap.size, o, none⟩ = some v := fun o v hv => by
        rw [hwv]
        exact (((Below.refl _ _).alloc (Nat.le_refl _) _).cell (p := ⟨wr.heap.size, o, none⟩) (by simp)).trans (by simp [hv])
      have cf : wv.cell? ⟨wr.heap.size + 1, 2, none⟩ = some (.string (nm j)) := by
        rw [hwv, show wr.heap.size + 1 = (wr.alloc (.cells #[.string ⟨#[49]⟩, .slice none 0 0, rs] 39)).heap.size by simp]
        simp [hFC]
      have qg : ∀ t, t < qs.length → qs[t]? = some (qs.getD t ⟨#[]⟩) := fun t ht => by simp [List.getD, ht]
      refine ⟨by show _ ≤ wr.heap.size + 1; omega, by show _ ≤ wr.heap.size; omega, by show wr.heap.size + 1 < _; omega, by show wr.heap.size < _; omega, hgc (wr.heap.size + 1) 2 _ (by omega) cf, hgc wr.heap.size 0 _ (by omega) (cv 0 _ rfl), ?_, hq, fun hp => ?_, fun t ht => ?_, fun t ht => ?_, fun t ht => ?_, fun hW => ?_⟩
      · show w6.cell? ⟨wr.heap.size, 2, none⟩ = some (slv rb qs.length rc)
        rw [← ers]
        exact hgc wr.heap.size 2 _ (by omega) (cv 2 _ rfl)
      · have a1 := hrb hp
        have a2 := hlb hp
        exact ⟨⟨by show _ ≤ rb; omega, by show rb < _; omega⟩, by show _ ≤ lb; omega, by show lb < _; omega⟩
      · have hp : 0 < qs.length := Nat.lt_of_le_of_lt (Nat.zero_le _) ht
        have a1 := hrb hp
        obtain ⟨f1, f2⟩ := flat_get qs t _ (qg t ht)
        exact ⟨hgc _ _ _ (by show _ ≤ rb; omega) ((bv.cell (p := ⟨rb, _, none⟩) a1.2.1).trans (a1.2.2 _ _ f1)), hgc _ _ _ (by show _ ≤ rb; omega) ((bv.cell (p := ⟨rb, _, none⟩) a1.2.1).trans (a1.2.2 _ _ f2))⟩
      · have hp : 0 < qs.length := Nat.lt_of_le_of_lt (Nat.zero_le _) ht
        have a2 := hlb hp
        exact hgc _ _ _ (by show _ ≤ lb; omega) ((bv.cell (p := ⟨lb, _, none⟩) a2.2.1).trans (a2.2.2 _ _ (by rw [strs, List.getElem?_map, qg t ht]; rfl)))
      · exact h5.ok _ (List.mem_of_getElem? (qg t ht))
      · obtain ⟨i', hi', hWi, hm'⟩ := hw hW
        obtain ⟨t, ht⟩ := List.getElem?_of_mem hm'
        have htl : t < qs.length := (List.getElem?_eq_some_iff.1 ht).1
        exact ⟨t, htl, i', hi', hWi, by have := qg t htl; rw [ht] at this; exact (Option.some.inj this).symm⟩
    · rw [if_neg e]
      exact (h1.ent j (by omega)).grown hg (by omega)
end Go.Proofs.YbulkdabsFmt.Fn
