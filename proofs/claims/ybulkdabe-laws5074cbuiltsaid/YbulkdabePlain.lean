/-
  THE PLAIN LAW OF THE SEAT Ybulkdabe: no Go in sight: the place of the first unescaped ',' or '+'.
-/
namespace Go.Proofs.Ybulkdabe.Sep

/-- The place of the first ',' or '+' that no backslash escapes, counted from k on; the first argument: is the next byte escaped? -/
def fe : Bool → List UInt8 → Nat → Option Nat
  | _, [], _ => none
  | true, _ :: r, k => fe false r (k + 1)
  | false, c :: r, k => if c.toNat = 92 then fe true r (k + 1) else if c.toNat = 44 ∨ c.toNat = 43 then some k else fe false r (k + 1)

theorem fe_ge (e : Bool) (l : List UInt8) (k j : Nat) (h : fe e l k = some j) : k ≤ j ∧ j < k + l.length := by
  induction l generalizing e k with
  | nil => cases e <;> simp [fe] at h
  | cons c r ih =>
    cases e with
    | true =>
      have h' := ih _ _ (by simpa only [fe] using h)
      simp; omega
    | false =>
      simp only [fe] at h
      by_cases h1 : c.toNat = 92
      · rw [if_pos h1] at h
        have h' := ih _ _ h
        simp; omega
      · rw [if_neg h1] at h
        by_cases h2 : c.toNat = 44 ∨ c.toNat = 43
        · rw [if_pos h2] at h
          simp at h
          simp; omega
        · rw [if_neg h2] at h
          have h' := ih _ _ h
          simp; omega

/-- The same place, asked from byte k of a string on. -/
def at_ (s : ByteArray) (e : Bool) (k : Nat) : Option Nat := fe e (s.data.toList.drop k) k
def sep (s : ByteArray) : Option Nat := at_ s false 0

theorem drop_cons (s : ByteArray) (k : Nat) (h : k < s.size) : s.data.toList.drop k = s[k] :: s.data.toList.drop (k + 1) := by
  rw [List.drop_eq_getElem_cons (by simpa using h)]; rfl

theorem at_end (s : ByteArray) (e : Bool) (k : Nat) (h : s.size ≤ k) : at_ s e k = none := by
  unfold at_
  rw [List.drop_eq_nil_of_le (by simpa using h)]
  cases e <;> rfl
theorem at_true (s : ByteArray) (k : Nat) (h : k < s.size) : at_ s true k = at_ s false (k + 1) := by
  unfold at_; rw [drop_cons s k h]; rfl
theorem at_true' (s : ByteArray) (k : Nat) : at_ s true k = at_ s false (k + 1) := by
  by_cases h : k < s.size
  · exact at_true s k h
  · rw [at_end s _ _ (by omega), at_end s _ _ (by omega)]
theorem at_back (s : ByteArray) (k : Nat) (h : k < s.size) (hc : s[k].toNat = 92) : at_ s false k = at_ s true (k + 1) := by
  unfold at_; rw [drop_cons s k h]; simp only [fe]; rw [if_pos hc]
theorem at_sep (s : ByteArray) (k : Nat) (h : k < s.size) (hb : ¬ s[k].toNat = 92) (hc : s[k].toNat = 44 ∨ s[k].toNat = 43) : at_ s false k = some k := by
  unfold at_; rw [drop_cons s k h]; simp only [fe]; rw [if_neg hb, if_pos hc]
theorem at_other (s : ByteArray) (k : Nat) (h : k < s.size) (hb : ¬ s[k].toNat = 92) (hc : ¬ (s[k].toNat = 44 ∨ s[k].toNat = 43)) : at_ s false k = at_ s false (k + 1) := by
  unfold at_; rw [drop_cons s k h]; simp only [fe]; rw [if_neg hb, if_neg hc]
theorem sep_lt (s : ByteArray) (k : Nat) (h : sep s = some k) : k < s.size := by
  have := fe_ge _ _ _ _ h
  simp at this; exact this

/-- The pieces put back give the string. -/
theorem pieces (s : ByteArray) (k : Nat) (h : k < s.size) : s.data.toList.take k ++ ([s[k]] ++ s.data.toList.drop (k + 1)) = s.data.toList := by
  rw [List.singleton_append, ← drop_cons s k h, List.take_append_drop]
end Go.Proofs.Ybulkdabe.Sep
