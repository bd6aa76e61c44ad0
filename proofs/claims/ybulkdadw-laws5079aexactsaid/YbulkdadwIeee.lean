/-
  THE PLAIN LAWS ON FLOATS OF THE SEAT Ybulkdadw: no Go in sight: over the model's own 'Ieee' (words of a double).
-/
import Ieee.Arith
namespace Go.Proofs.Ybulkdadw.Fl
open Ieee

theorem log2_scale (m k : Nat) (hm : m ≠ 0) : (m * 2 ^ k).log2 = m.log2 + k := by
  have hp : 0 < 2 ^ k := Nat.two_pow_pos k
  have hmk : m * 2 ^ k ≠ 0 := by
    intro h; rcases Nat.mul_eq_zero.1 h with h | h <;> omega
  obtain ⟨h1, h2⟩ := (Nat.log2_eq_iff hm).1 rfl
  refine (Nat.log2_eq_iff hmk).2 ⟨?_, ?_⟩
  · rw [Nat.pow_add]; exact Nat.mul_le_mul_right _ h1
  · rw [show m.log2 + k + 1 = m.log2 + 1 + k from by omega, Nat.pow_add (m := m.log2 + 1)]
    exact (Nat.mul_lt_mul_right hp).2 h2

theorem cut_scale (way : Toward) (neg : Bool) (m k d : Nat) (hm : m ≠ 0) : way.cut neg (m * 2 ^ k) (d + k) = way.cut neg m d := by
  have hl : (m * 2 ^ k).log2 = m.log2 + k := log2_scale m k hm
  have hg : min (d + k) (m.log2 + k + 2) = min d (m.log2 + 2) + k := by omega
  have hp : 0 < 2 ^ k := Nat.two_pow_pos k
  unfold Toward.cut
  simp only [hl, hg, Nat.one_shiftLeft, Nat.pow_add]
  generalize 2 ^ min d (m.log2 + 2) = g
  generalize 2 ^ k = p at hp
  have h1 : m * p / (g * p) = m / g := Nat.mul_div_mul_right m g hp
  have h2 : m * p % (g * p) = m % g * p := Nat.mul_mod_mul_right p m g
  rw [h1, h2]
  generalize m / g = low
  generalize m % g = rest
  have e1 : (rest * p != 0) = (rest != 0) := by
    rw [Bool.eq_iff_iff]
    simp only [bne_iff_ne, ne_eq, Nat.mul_eq_zero, not_or]
    exact ⟨fun h => h.1, fun h => ⟨h, by omega⟩⟩
  have e2 : decide (g * p < 2 * (rest * p)) = decide (g < 2 * rest) := by
    rw [show 2 * (rest * p) = 2 * rest * p from by rw [Nat.mul_assoc]]
    rw [decide_eq_decide]
    exact Nat.mul_lt_mul_right hp
  have e3 : (g * p == 2 * (rest * p)) = (g == 2 * rest) := by
    rw [show 2 * (rest * p) = 2 * rest * p from by rw [Nat.mul_assoc]]
    rw [Bool.eq_iff_iff]; simp only [beq_iff_eq]
    exact Nat.mul_left_inj (by omega)
  cases way <;> simp only [e1, e2, e3]

theorem nearest_scale (f : Format) (neg : Bool) (m k : Nat) (place : Int) : f.nearest neg (m * 2 ^ k) (place - k) = f.nearest neg m place := by
  by_cases hm : m = 0
  · subst hm; simp [Format.nearest]
  have hp : 0 < 2 ^ k := Nat.two_pow_pos k
  have hmk : m * 2 ^ k ≠ 0 := by
    intro h; rcases Nat.mul_eq_zero.1 h with h | h <;> omega
  have hl : (m * 2 ^ k).log2 = m.log2 + k := log2_scale m k hm
  unfold Format.nearest
  rw [if_neg hm, if_neg hmk, hl]
  have e : place - (k : Int) + ((m.log2 + k : Nat) : Int) - f.fractionBits = place + m.log2 - f.fractionBits := by omega
  simp only [e]
  generalize max (place + (m.log2 : Int) - f.fractionBits) f.leastPlace = last
  suffices h : Toward.even.cut neg ((m * 2 ^ k) <<< (place - (k : Int) - last).toNat) (last - (place - (k : Int))).toNat = Toward.even.cut neg (m <<< (place - last).toNat) (last - place).toNat by
    rw [h]
  simp only [Nat.shiftLeft_eq]
  by_cases h1 : last ≤ place - k
  · have a1 : (last - (place - (k : Int))).toNat = 0 := by omega
    have a2 : (last - place).toNat = 0 := by omega
    have a3 : (place - last).toNat = k + (place - (k : Int) - last).toNat := by omega
    rw [a1, a2, a3, Nat.pow_add, Nat.mul_assoc]
  by_cases h2 : last ≤ place
  · have a1 : (place - (k : Int) - last).toNat = 0 := by omega
    have a2 : (last - place).toNat = 0 := by omega
    obtain ⟨d, hd⟩ : ∃ d, (last - (place - (k : Int))).toNat = d := ⟨_, rfl⟩
    have a3 : k = (place - last).toNat + d := by omega
    rw [a1, a2, hd, Nat.pow_zero, Nat.mul_one]
    have := cut_scale .even neg (m * 2 ^ (place - last).toNat) d 0 (by
      intro h; rcases Nat.mul_eq_zero.1 h with h | h
      · exact hm h
      · have := Nat.two_pow_pos (place - last).toNat; omega)
    rw [Nat.zero_add, Nat.mul_assoc, ← Nat.pow_add, ← a3] at this
    exact this
  · have a1 : (place - (k : Int) - last).toNat = 0 := by omega
    have a2 : (place - last).toNat = 0 := by omega
    have a3 : (last - (place - (k : Int))).toNat = (last - place).toNat + k := by omega
    rw [a1, a2, a3, Nat.pow_zero, Nat.mul_one, Nat.mul_one]
    exact cut_scale .even neg m k _ hm

theorem read_two : double.read 4611686018427387904 = .number false 4503599627370496 (-51) := by decide +kernel
theorem read_half : double.read 4602678819172646912 = .number false 4503599627370496 (-53) := by decide +kernel
theorem read_one : double.read 4607182418800017408 = .number false 4503599627370496 (-52) := by decide +kernel

/-- The magnitude of a word that stands for a number takes at most 53 digits. -/
theorem read_mag (x : Nat) (s : Bool) (m : Nat) (i : Int) (h : double.read x = .number s m i) : m < 2 ^ 53 := by
  unfold Format.read at h
  have e1 : double.binade = 4503599627370496 := by decide +kernel
  have e2 : (2 : Nat) ^ 53 = 9007199254740992 := by decide +kernel
  rw [e2]
  simp only [e1] at h
  split at h
  · cases h; omega
  · split at h
    · cases h; omega
    · split at h <;> cases h

/-- x / 2 is x * 0.5, to the bit; where one is invalid, so is the other. -/
theorem half (x : Nat) : double.div x 4611686018427387904 = double.mul x 4602678819172646912 := by
  unfold Format.div Format.mul
  rw [read_two, read_half]
  cases h : double.read x with
  | nan s t => rfl
  | infinity s => rfl
  | number s m i =>
    have hm := read_mag x s m i h
    have e0 : double.fractionBits + 2 = 54 := rfl
    have el : (4503599627370496 : Nat).log2 = 52 := by decide +kernel
    simp only [Datum.quotient, Datum.product, e0, el]
    rw [if_neg (by decide)]
    simp only [Option.map_some, Option.some.injEq, Format.write]
    by_cases h0 : m = 0
    · subst h0; simp [Format.nearest]
    have hlog : m.log2 < 53 := (Nat.log2_lt h0).2 hm
    obtain ⟨q, hq⟩ : ∃ q, 54 + 52 - m.log2 = 52 + q := ⟨54 - m.log2, by omega⟩
    rw [hq, Nat.shiftLeft_eq, Nat.pow_add, ← Nat.mul_assoc, Nat.mul_right_comm]
    rw [show (2 : Nat) ^ 52 = 4503599627370496 from by decide]
    rw [Nat.mul_div_cancel _ (by decide), Nat.mul_mod_left]
    have e3 : 2 * (m * 2 ^ q) + ((0 : Nat) != 0).toNat = m * 2 ^ (q + 1) := by
      rw [Nat.pow_succ]; simp; rw [← Nat.mul_assoc, Nat.mul_comm 2, Nat.mul_assoc, Nat.mul_comm 2]
    rw [e3]
    have a := nearest_scale double (s ^^ false) m (q + 1) (i - 1)
    have b := nearest_scale double (s ^^ false) m 52 (i - 1)
    rw [show (i - -51 - ((52 + q : Nat) : Int) - 1) = i - 1 - ((q + 1 : Nat) : Int) from by omega, a]
    rw [show (i + -53) = i - 1 - ((52 : Nat) : Int) from by omega, show (4503599627370496 : Nat) = 2 ^ 52 from by decide, b]


/-! ### How a word reads, by its sign and its rung -/
def rd (s : Bool) (r : Nat) : Datum :=
  if r < 4503599627370496 then .number s r (-1074)
  else if r < 9218868437227405312 then .number s (4503599627370496 + r % 4503599627370496) (-1074 + (r / 4503599627370496 - 1 : Nat))
  else if r = 9218868437227405312 then .infinity s
  else .nan s (r - 9218868437227405312)

theorem read_rd (x : Nat) : double.read x = rd (x / 9223372036854775808 % 2 == 1) (x % 9223372036854775808) := by
  have e1 : double.binade = 4503599627370496 := by decide +kernel
  have e2 : double.signWeight = 9223372036854775808 := by decide +kernel
  have e3 : double.infRung = 9218868437227405312 := by decide +kernel
  have e4 : double.leastPlace = -1074 := by decide +kernel
  unfold Format.read rd
  simp only [e1, e2, e3, e4]

theorem read_pos (r : Nat) (h : r < 9223372036854775808) : double.read r = rd false r := by
  rw [read_rd, Nat.div_eq_of_lt h, Nat.mod_eq_of_lt h]; rfl
theorem read_neg (r : Nat) (h : r < 9223372036854775808) : double.read (9223372036854775808 + r) = rd true r := by
  rw [read_rd, show (9223372036854775808 + r) / 9223372036854775808 = 1 from by omega, show (9223372036854775808 + r) % 9223372036854775808 = r from by omega]; rfl

theorem word_cases (x : Nat) (h : x < 18446744073709551616) : x < 9223372036854775808 ∨ ∃ r, r < 9223372036854775808 ∧ x = 9223372036854775808 + r := by
  by_cases h1 : x < 9223372036854775808
  · exact .inl h1
  · exact .inr ⟨x - 9223372036854775808, by omega, by omega⟩

/-! ### NaN -/
def isN (x : Nat) : Prop := ∃ s f, double.read x = .nan s f

theorem isN_word (t : Nat) : isN ((t % 2) * 2 ^ 63 + 0x7ff0000000000000 + 1 + (t / 2) % (2 ^ 52 - 1)) := by
  have e1 : (2 : Nat) ^ 63 = 9223372036854775808 := by decide +kernel
  have e2 : (2 : Nat) ^ 52 - 1 = 4503599627370495 := by decide +kernel
  rw [e1, e2]
  obtain ⟨q, hq, hl⟩ : ∃ q, q = t / 2 % 4503599627370495 ∧ q < 4503599627370495 := ⟨_, rfl, Nat.mod_lt _ (by decide)⟩
  rw [← hq]
  have hr : ∀ s, rd s (9218868437227405312 + 1 + q) = .nan s (1 + q) := fun s => by
    unfold rd
    rw [if_neg (by omega), if_neg (by omega), if_neg (by omega), show 9218868437227405312 + 1 + q - 9218868437227405312 = 1 + q from by omega]
  rcases Nat.mod_two_eq_zero_or_one t with h | h
  · rw [h]
    refine ⟨false, 1 + q, ?_⟩
    rw [show 0 * 9223372036854775808 + 9218868437227405312 + 1 + q = 9218868437227405312 + 1 + q from by omega, read_pos _ (by omega), hr false]
  · rw [h]
    refine ⟨true, 1 + q, ?_⟩
    rw [show 1 * 9223372036854775808 + 9218868437227405312 + 1 + q = 9223372036854775808 + (9218868437227405312 + 1 + q) from by omega, read_neg _ (by omega), hr true]

theorem order_nan_left {x : Nat} (h : isN x) (y : Nat) : double.order x y = none := by
  obtain ⟨s, f, e⟩ := h
  unfold Format.order; rw [e]; cases double.read y <;> rfl
theorem order_nan_right {x : Nat} (h : isN x) (y : Nat) : double.order y x = none := by
  obtain ⟨s, f, e⟩ := h
  unfold Format.order; rw [e]; cases double.read y <;> rfl
theorem add_nan_left {x : Nat} (h : isN x) (y : Nat) : double.add x y = none := by
  obtain ⟨s, f, e⟩ := h
  unfold Format.add; rw [e]; cases double.read y <;> rfl
theorem add_nan_right {x : Nat} (h : isN x) (y : Nat) : double.add y x = none := by
  obtain ⟨s, f, e⟩ := h
  unfold Format.add; rw [e]; cases double.read y <;> rfl
theorem sub_nan_left {x : Nat} (h : isN x) (y : Nat) : double.sub x y = none := by
  obtain ⟨s, f, e⟩ := h
  unfold Format.sub; rw [e]; cases (double.read y).opposite <;> rfl

theorem order_self {x : Nat} (h : ¬ isN x) : double.order x x = some .eq := by
  unfold Format.order
  cases e : double.read x with
  | nan s f => exact absurd ⟨s, f, e⟩ h
  | infinity s => simp [Datum.order]
  | number s m i => simp [Datum.order]
theorem isN_iff (x : Nat) : (double.order x x != some .eq) = true ↔ isN x := by
  constructor
  · intro h
    exact Classical.byContradiction fun hn => by rw [order_self hn] at h; simp at h
  · intro h; rw [order_nan_left h]; rfl
theorem nonan {x : Nat} (h : ¬ isN x) : (double.order x x != some .eq) = false := by rw [order_self h]; rfl
theorem yesnan {x : Nat} (h : isN x) : (double.order x x != some .eq) = true := (isN_iff x).2 h

theorem sub_one {x : Nat} (h : ¬ isN x) : ∃ r, double.sub x 4607182418800017408 = some r := by
  unfold Format.sub; rw [read_one]
  cases e : double.read x with
  | nan s f => exact absurd ⟨s, f, e⟩ h
  | infinity s => exact ⟨_, rfl⟩
  | number s m i => exact ⟨_, rfl⟩
theorem add_one {x : Nat} (h : ¬ isN x) : ∃ r, double.add x 4607182418800017408 = some r := by
  unfold Format.add; rw [read_one]
  cases e : double.read x with
  | nan s f => exact absurd ⟨s, f, e⟩ h
  | infinity s => exact ⟨_, rfl⟩
  | number s m i => exact ⟨_, rfl⟩

theorem not_isN_pos {r : Nat} (h : r < 9223372036854775808) (hn : ¬ isN r) : r ≤ 9218868437227405312 :=
  Classical.byContradiction fun hc => hn ⟨false, _, by rw [read_pos r h]; unfold rd; rw [if_neg (by omega), if_neg (by omega), if_neg (by omega)]⟩
theorem not_isN_neg {r : Nat} (h : r < 9223372036854775808) (hn : ¬ isN (9223372036854775808 + r)) : r ≤ 9218868437227405312 :=
  Classical.byContradiction fun hc => hn ⟨true, _, by rw [read_neg r h]; unfold rd; rw [if_neg (by omega), if_neg (by omega), if_neg (by omega)]⟩

/-! ### One rung on -/
def mag (r : Nat) : Nat := if r < 4503599627370496 then r else 4503599627370496 + r % 4503599627370496
def plc (r : Nat) : Nat := r / 4503599627370496 - 1
theorem rd_num (s : Bool) (r : Nat) (h : r < 9218868437227405312) : rd s r = .number s (mag r) (-1074 + (plc r : Int)) := by
  unfold rd mag plc
  by_cases h1 : r < 4503599627370496
  · rw [if_pos h1, if_pos h1, show r / 4503599627370496 - 1 = 0 from by omega]; rfl
  · rw [if_neg h1, if_neg h1, if_pos h]

/-- The next rung's magnitude is the greater, in the units of the lower place. -/
theorem step (r : Nat) : (plc (r + 1) = plc r ∧ mag (r + 1) = mag r + 1) ∨ (plc (r + 1) = plc r + 1 ∧ mag r = 9007199254740991 ∧ mag (r + 1) = 4503599627370496) := by
  unfold mag plc
  by_cases h1 : r + 1 < 4503599627370496
  · rw [if_pos h1, if_pos (by omega)]; left; omega
  · rw [if_neg h1]
    by_cases h2 : r < 4503599627370496
    · rw [if_pos h2]; left; omega
    · rw [if_neg h2]
      by_cases h3 : (r + 1) % 4503599627370496 = 0
      · right; omega
      · left; omega

theorem cmp_pos (m n : Nat) (i j : Nat) (h : (i = j ∧ m < n) ∨ (j = i + 1 ∧ m < 2 * n)) :
    Datum.order (.number false m (-1074 + (i : Int))) (.number false n (-1074 + (j : Int))) = some .lt ∧ Datum.order (.number false n (-1074 + (j : Int))) (.number false m (-1074 + (i : Int))) = some .gt ∧
    Datum.order (.number true m (-1074 + (i : Int))) (.number true n (-1074 + (j : Int))) = some .gt ∧ Datum.order (.number true n (-1074 + (j : Int))) (.number true m (-1074 + (i : Int))) = some .lt := by
  have hb : min (-1074 + (i : Int)) (-1074 + (j : Int)) = -1074 + (i : Int) := by rcases h with ⟨rfl, _⟩ | ⟨rfl, _⟩ <;> omega
  have hb' : min (-1074 + (j : Int)) (-1074 + (i : Int)) = -1074 + (i : Int) := by rcases h with ⟨rfl, _⟩ | ⟨rfl, _⟩ <;> omega
  have hi : (-1074 + (i : Int) - (-1074 + (i : Int))).toNat = 0 := by omega
  obtain ⟨u, hu, hlt⟩ : ∃ u, (-1074 + (j : Int) - (-1074 + (i : Int))).toNat = u ∧ m < n <<< u := by
    rcases h with ⟨rfl, h⟩ | ⟨rfl, h⟩
    · exact ⟨0, by omega, by simpa using h⟩
    · exact ⟨1, by omega, by rw [Nat.shiftLeft_eq]; omega⟩
  simp only [Datum.order, hb, hb', hi, hu, signed, Nat.shiftLeft_zero]
  generalize n <<< u = v at hlt
  simp only [Bool.false_eq_true, if_false, if_true, Option.some.injEq, Int.compare_eq_lt, Int.compare_eq_gt]
  omega

theorem rung_lt (r : Nat) (h : r < 9218868437227405312) :
    (rd false r).order (rd false (r + 1)) = some .lt ∧ (rd false (r + 1)).order (rd false r) = some .gt ∧
    (rd true r).order (rd true (r + 1)) = some .gt ∧ (rd true (r + 1)).order (rd true r) = some .lt := by
  by_cases h1 : r + 1 < 9218868437227405312
  · rw [rd_num _ r h, rd_num _ (r + 1) h1, rd_num _ r h, rd_num _ (r + 1) h1]
    refine cmp_pos _ _ _ _ ?_
    rcases step r with ⟨a, b⟩ | ⟨a, b, c⟩
    · left; omega
    · right; omega
  · have e : r + 1 = 9218868437227405312 := by omega
    rw [e, rd_num _ r h, rd_num _ r h]
    refine ⟨rfl, rfl, rfl, rfl⟩


/-! ### The sign of a word; its neighbours -/
theorem rd_zero (s : Bool) : rd s 0 = .number s 0 (-1074) := by unfold rd; rw [if_pos (by decide)]
theorem rd_inf (s : Bool) : rd s 9218868437227405312 = .infinity s := by unfold rd; rw [if_neg (by decide), if_neg (by decide), if_pos rfl]
theorem mag_pos (r : Nat) (h : 0 < r) : 0 < mag r := by unfold mag; split <;> omega

theorem num_zero (s : Bool) (m : Nat) (i : Nat) (h : 0 < m) : Datum.order (.number s m (-1074 + (i : Int))) (.number false 0 (-1074)) = some (if s then .lt else .gt) := by
  have hb : min (-1074 + (i : Int)) (-1074) = -1074 := by omega
  have hu : (-1074 + (i : Int) - -1074).toNat = i := by omega
  have hp : 0 < m <<< i := by rw [Nat.shiftLeft_eq]; exact Nat.mul_pos h (Nat.two_pow_pos i)
  simp only [Datum.order, hb, hu, signed]
  generalize m <<< i = v at hp
  cases s
  · simp only [Bool.false_eq_true, if_false, Option.some.injEq, Int.compare_eq_gt]; simp; omega
  · simp only [if_true, Bool.false_eq_true, if_false, Option.some.injEq, Int.compare_eq_lt]; simp; omega

theorem sign_pos (r : Nat) (h : 0 < r) (hi : r ≤ 9218868437227405312) : double.order r 0 = some .gt := by
  show (double.read r).order (double.read 0) = _
  rw [read_pos r (by omega), read_pos 0 (by decide), rd_zero]
  by_cases h1 : r < 9218868437227405312
  · rw [rd_num _ r h1, num_zero _ _ _ (mag_pos r h)]; rfl
  · rw [show r = 9218868437227405312 from by omega, rd_inf]; rfl
theorem sign_neg (r : Nat) (h : 0 < r) (hi : r ≤ 9218868437227405312) : double.order (9223372036854775808 + r) 0 = some .lt := by
  show (double.read _).order (double.read 0) = _
  rw [read_neg r (by omega), read_pos 0 (by decide), rd_zero]
  by_cases h1 : r < 9218868437227405312
  · rw [rd_num _ r h1, num_zero _ _ _ (mag_pos r h)]; rfl
  · rw [show r = 9218868437227405312 from by omega, rd_inf]; rfl

/-- A word that is no NaN: a zero; above zero; below zero. -/
theorem three (x : Nat) (h : x < 18446744073709551616) (hn : ¬ isN x) :
    (x = 0 ∨ x = 9223372036854775808) ∨ (0 < x ∧ x ≤ 9218868437227405312 ∧ double.order x 0 = some .gt) ∨ (9223372036854775808 < x ∧ x ≤ 18442240474082181120 ∧ double.order x 0 = some .lt) := by
  rcases word_cases x h with h1 | ⟨r, h1, rfl⟩
  · have h2 := not_isN_pos h1 hn
    by_cases h0 : x = 0
    · exact .inl (.inl h0)
    · exact .inr (.inl ⟨by omega, h2, sign_pos x (by omega) h2⟩)
  · have h2 := not_isN_neg h1 hn
    by_cases h0 : r = 0
    · subst h0; exact .inl (.inr rfl)
    · exact .inr (.inr ⟨by omega, by omega, sign_neg r (by omega) h2⟩)

theorem below_zero (x : Nat) (h : x = 0 ∨ x = 9223372036854775808) : ∃ r, double.sub x 4607182418800017408 = some r ∧ double.order r x = some .lt := by
  rcases h with rfl | rfl
  · exact ⟨13830554455654793216, by decide +kernel, by decide +kernel⟩
  · exact ⟨13830554455654793216, by decide +kernel, by decide +kernel⟩
theorem above_zero (x : Nat) (h : x = 0 ∨ x = 9223372036854775808) : ∃ r, double.add x 4607182418800017408 = some r ∧ double.order r x = some .gt := by
  rcases h with rfl | rfl
  · exact ⟨4607182418800017408, by decide +kernel, by decide +kernel⟩
  · exact ⟨4607182418800017408, by decide +kernel, by decide +kernel⟩

theorem down_pos (x : Nat) (h : 0 < x) (hi : x ≤ 9218868437227405312) : double.order (x - 1) x = some .lt := by
  show (double.read _).order (double.read _) = _
  obtain ⟨r, rfl⟩ : ∃ r, x = r + 1 := ⟨x - 1, by omega⟩
  rw [Nat.add_sub_cancel, read_pos r (by omega), read_pos (r + 1) (by omega)]
  exact (rung_lt r (by omega)).1
theorem down_neg (x : Nat) (h : 9223372036854775808 ≤ x) (hi : x < 18442240474082181120) : double.order (x + 1) x = some .lt := by
  show (double.read _).order (double.read _) = _
  obtain ⟨r, rfl⟩ : ∃ r, x = 9223372036854775808 + r := ⟨x - 9223372036854775808, by omega⟩
  rw [Nat.add_assoc, read_neg r (by omega), read_neg (r + 1) (by omega)]
  exact (rung_lt r (by omega)).2.2.2
theorem up_pos (x : Nat) (hi : x < 9218868437227405312) : double.order (x + 1) x = some .gt := by
  show (double.read _).order (double.read _) = _
  rw [read_pos x (by omega), read_pos (x + 1) (by omega)]
  exact (rung_lt x (by omega)).2.1
theorem up_neg (x : Nat) (h : 9223372036854775808 < x) (hi : x ≤ 18442240474082181120) : double.order (x - 1) x = some .gt := by
  show (double.read _).order (double.read _) = _
  obtain ⟨r, rfl⟩ : ∃ r, x = 9223372036854775808 + (r + 1) := ⟨x - 9223372036854775808 - 1, by omega⟩
  rw [show 9223372036854775808 + (r + 1) - 1 = 9223372036854775808 + r from by omega, read_neg r (by omega), read_neg (r + 1) (by omega)]
  exact (rung_lt r (by omega)).2.2.1

/-! ### The infinities -/
theorem read_pinf : double.read 9218868437227405312 = .infinity false := by decide +kernel
theorem read_ninf : double.read 18442240474082181120 = .infinity true := by decide +kernel
theorem inf_of (x : Nat) (s : Bool) (h : x < 18446744073709551616) (e : double.read x = .infinity s) : x = if s then 18442240474082181120 else 9218868437227405312 := by
  rcases word_cases x h with h1 | ⟨r, h1, rfl⟩
  · rw [read_pos x h1] at e
    unfold rd at e
    split at e
    · cases e
    split at e
    · cases e
    split at e
    · cases e; simpa
    · cases e
  · rw [read_neg r h1] at e
    unfold rd at e
    split at e
    · cases e
    split at e
    · cases e
    split at e
    · cases e; simp; omega
    · cases e
theorem eq_ninf (x : Nat) (h : x < 18446744073709551616) (hx : x ≠ 18442240474082181120) : (double.order x 18442240474082181120 == some .eq) = false := by
  show ((double.read x).order (double.read _) == _) = _
  rw [read_ninf]
  cases e : double.read x with
  | nan s f => rfl
  | number s m i => rfl
  | infinity s =>
    cases s
    · rfl
    · exact absurd (inf_of x true h e) (by simpa using hx)
theorem eq_pinf (x : Nat) (h : x < 18446744073709551616) (hx : x ≠ 9218868437227405312) : (double.order x 9218868437227405312 == some .eq) = false := by
  show ((double.read x).order (double.read _) == _) = _
  rw [read_pinf]
  cases e : double.read x with
  | nan s f => rfl
  | number s m i => rfl
  | infinity s =>
    cases s
    · exact absurd (inf_of x false h e) (by simpa using hx)
    · rfl
theorem ninf_gt (x : Nat) : (double.order 18442240474082181120 x == some .gt) = false := by
  show ((double.read _).order (double.read x) == _) = _
  rw [read_ninf]
  cases e : double.read x with
  | nan s f => rfl
  | number s m i => rfl
  | infinity s => cases s <;> rfl
theorem pinf_gt (x : Nat) (h : x < 18446744073709551616) (hn : ¬ isN x) (hx : x ≠ 9218868437227405312) : (double.order 9218868437227405312 x == some .gt) = true := by
  show ((double.read _).order (double.read x) == _) = _
  rw [read_pinf]
  cases e : double.read x with
  | nan s f => exact absurd ⟨s, f, e⟩ hn
  | number s m i => rfl
  | infinity s =>
    cases s
    · exact absurd (inf_of x false h e) (by simpa using hx)
    · rfl

/-- 'f > MaxFloat64' says of a word that is no NaN: it is +Inf. -/
theorem gt_max (x : Nat) (h : x < 18446744073709551616) (hx : x ≠ 9218868437227405312) : (double.order x 9218868437227405311 == some .gt) = false := by
  show ((double.read x).order (double.read _) == _) = _
  have em : double.read 9218868437227405311 = .number false 9007199254740991 (-1074 + (2045 : Nat)) := by decide +kernel
  rw [em]
  have neg : ∀ r, r < 9223372036854775808 → ((rd true r).order (.number false 9007199254740991 (-1074 + (2045 : Nat))) == some .gt) = false := by
    intro r hr
    by_cases h1 : r < 9218868437227405312
    · rw [rd_num _ r h1]
      simp only [Datum.order, signed, if_true, Bool.false_eq_true, if_false]
      generalize mag r <<< _ = u
      generalize 9007199254740991 <<< _ = v
      rw [beq_eq_false_iff_ne]
      intro hc
      simp only [Option.some.injEq, Int.compare_eq_gt] at hc
      omega
    by_cases h2 : r = 9218868437227405312
    · rw [h2, rd_inf]; rfl
    · unfold rd; rw [if_neg (by omega), if_neg h1, if_neg h2]; rfl
  rcases word_cases x h with h1 | ⟨r, h1, rfl⟩
  · rw [read_pos x h1]
    by_cases h2 : x < 9218868437227405312
    · rw [rd_num _ x h2]
      have hp : plc x ≤ 2045 := by unfold plc; omega
      have hm : mag x ≤ 9007199254740991 := by unfold mag; split <;> omega
      generalize plc x = i at hp
      generalize mag x = m at hm
      have hb : min (-1074 + (i : Int)) (-1074 + ((2045 : Nat) : Int)) = -1074 + (i : Int) := by omega
      have hi : (-1074 + (i : Int) - (-1074 + (i : Int))).toNat = 0 := by omega
      obtain ⟨u, hu⟩ : ∃ u, (-1074 + ((2045 : Nat) : Int) - (-1074 + (i : Int))).toNat = u := ⟨_, rfl⟩
      have hle : 9007199254740991 ≤ 9007199254740991 <<< u := by
        rw [Nat.shiftLeft_eq]; exact Nat.le_mul_of_pos_right _ (Nat.two_pow_pos u)
      simp only [Datum.order, hb, hi, hu, signed, Nat.shiftLeft_zero, Bool.false_eq_true, if_false]
      generalize 9007199254740991 <<< u = v at hle
      rw [beq_eq_false_iff_ne]
      intro hc
      simp only [Option.some.injEq, Int.compare_eq_gt] at hc
      omega
    · unfold rd; rw [if_neg (by omega), if_neg h2, if_neg hx]; rfl
  · rw [read_neg r h1]; exact neg r h1
theorem gt_max_inf : (double.order 9218868437227405312 9218868437227405311 == some .gt) = true := by decide +kernel

/-- The sign turned: '-f'. -/
theorem flip_lo (x : Nat) (h : x < 9223372036854775808) : x ^^^ 9223372036854775808 = 9223372036854775808 + x := by
  have := Nat.xor_comm x 9223372036854775808
  rw [this, show (9223372036854775808 : Nat) = 2 ^ 63 from by decide]
  have h2 := Nat.two_pow_add_eq_or_of_lt (i := 63) (b := x) (by simpa using h) 1
  rw [Nat.mul_one] at h2
  rw [h2]
  apply Nat.eq_of_testBit_eq
  intro i
  rw [Nat.testBit_xor, Nat.testBit_or, Nat.testBit_two_pow]
  by_cases hi : 63 = i
  · subst hi
    have : x.testBit 63 = false := Nat.testBit_lt_two_pow (by simpa using h)
    simp [this]
  · simp [hi]
theorem flip_hi (r : Nat) (h : r < 9223372036854775808) : (9223372036854775808 + r) ^^^ 9223372036854775808 = r := by
  rw [← flip_lo r h, Nat.xor_assoc, Nat.xor_self, Nat.xor_zero]
theorem isinf_neg (x : Nat) (h : x < 18446744073709551616) (hx : x ≠ 18442240474082181120) : (double.order (x ^^^ 9223372036854775808) 9218868437227405311 == some .gt) = false := by
  rcases word_cases x h with h1 | ⟨r, h1, rfl⟩
  · rw [flip_lo x h1]; exact gt_max _ (by omega) (by omega)
  · rw [flip_hi r h1]; exact gt_max _ (by omega) (by omega)
theorem isinf_ninf : (double.order (18442240474082181120 ^^^ 9223372036854775808) 9218868437227405311 == some .gt) = true := by decide +kernel
theorem sub_ninf : double.sub 18442240474082181120 4607182418800017408 = some 18442240474082181120 := by decide +kernel
theorem add_pinf : double.add 9218868437227405312 4607182418800017408 = some 9218868437227405312 := by decide +kernel

/-! ### What 'below' and 'above' come to -/
/-- m - 1, or the next word down where that rounds back to m; -Inf is its own. -/
def belowW (x : Nat) : Nat :=
  match double.sub x 4607182418800017408 with
  | some r => if double.order r x = some .lt then r else if x = 18442240474082181120 then x else if double.order x 0 = some .gt then x - 1 else x + 1
  | none => 0
def aboveW (x : Nat) : Nat :=
  match double.add x 4607182418800017408 with
  | some r => if double.order r x = some .gt then r else if x = 9218868437227405312 then x else if double.order x 0 = some .gt then x + 1 else x - 1
  | none => 0

theorem belowW_lt (x : Nat) (h : x < 18446744073709551616) (hn : ¬ isN x) (hx : x ≠ 18442240474082181120) : double.order (belowW x) x = some .lt := by
  obtain ⟨r, hr⟩ := sub_one hn
  unfold belowW
  rw [hr]
  simp only
  by_cases h1 : double.order r x = some .lt
  · rw [if_pos h1]; exact h1
  rw [if_neg h1, if_neg hx]
  rcases three x h hn with h0 | ⟨a, b, c⟩ | ⟨a, b, c⟩
  · obtain ⟨r', hr', hlt⟩ := below_zero x h0
    rw [hr] at hr'; cases hr'; exact absurd hlt h1
  · rw [if_pos c]; exact down_pos x a b
  · rw [c, if_neg (by decide)]; exact down_neg x (by omega) (by omega)
theorem belowW_ninf : belowW 18442240474082181120 = 18442240474082181120 := by
  unfold belowW; rw [sub_ninf]; simp only; split <;> rfl
theorem aboveW_gt (x : Nat) (h : x < 18446744073709551616) (hn : ¬ isN x) (hx : x ≠ 9218868437227405312) : double.order (aboveW x) x = some .gt := by
  obtain ⟨r, hr⟩ := add_one hn
  unfold aboveW
  rw [hr]
  simp only
  by_cases h1 : double.order r x = some .gt
  · rw [if_pos h1]; exact h1
  rw [if_neg h1, if_neg hx]
  rcases three x h hn with h0 | ⟨a, b, c⟩ | ⟨a, b, c⟩
  · obtain ⟨r', hr', hlt⟩ := above_zero x h0
    rw [hr] at hr'; cases hr'; exact absurd hlt h1
  · rw [if_pos c]; exact up_pos x (by omega)
  · rw [c, if_neg (by decide)]; exact up_neg x (by omega) (by omega)
theorem aboveW_pinf : aboveW 9218868437227405312 = 9218868437227405312 := by
  unfold aboveW; rw [add_pinf]; simp only; split <;> rfl
theorem not_isN_ninf : ¬ isN 18442240474082181120 := by rintro ⟨s, f, e⟩; rw [read_ninf] at e; cases e
theorem not_isN_pinf : ¬ isN 9218868437227405312 := by rintro ⟨s, f, e⟩; rw [read_pinf] at e; cases e
theorem isN_std : isN 9221120237041090561 := ⟨false, 2251799813685249, by decide +kernel⟩
end Go.Proofs.Ybulkdadw.Fl
