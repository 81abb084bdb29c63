/-
  The plain mathematics of the seat's floats (Ieee.double): rounding, reading, ordering. No Go in sight.
-/
import Ieee.Arith
namespace Go.Proofs.Youaew.Fl
open Ieee

theorem log2_mul_pow {n : Nat} (h : n ≠ 0) (k : Nat) : (n * 2 ^ k).log2 = n.log2 + k := by
  have hn : n * 2 ^ k ≠ 0 := Nat.mul_ne_zero h (Nat.ne_of_gt (Nat.two_pow_pos k))
  rw [Nat.log2_eq_iff hn]
  have h1 := Nat.log2_self_le h
  have h2 := @Nat.lt_log2_self n
  constructor
  · rw [Nat.pow_add]; exact Nat.mul_le_mul_right _ h1
  · rw [show n.log2 + k + 1 = (n.log2 + 1) + k by omega, Nat.pow_add]
    exact Nat.mul_lt_mul_of_pos_right h2 (Nat.two_pow_pos k)

/-- What 'cut' adds to the floor. -/
def moreOf (way : Toward) (neg : Bool) (gap low rest : Nat) : Bool :=
  match way with
    | .even => gap < 2 * rest || (gap == 2 * rest && low % 2 == 1)
    | .down => neg && rest != 0
    | .up => !neg && rest != 0
    | .zero => false

/-- 'cut' without its cap. -/
theorem cut_eq (way : Toward) (neg : Bool) (n d : Nat) :
    way.cut neg n d = n / 2 ^ d + (moreOf way neg (2 ^ d) (n / 2 ^ d) (n % 2 ^ d)).toNat := by
  have key : ∀ e, (n / 2 ^ e + (moreOf way neg (2 ^ e) (n / 2 ^ e) (n % 2 ^ e)).toNat) = way.cut neg n e ∨ n.log2 + 2 < e := by
    intro e
    by_cases h : n.log2 + 2 < e
    · exact .inr h
    · left
      have hm : min e (n.log2 + 2) = e := by omega
      unfold Toward.cut moreOf
      simp only [hm, Nat.one_shiftLeft]
      cases way <;> rfl
  rcases key d with h | h
  · exact h.symm
  · have hl := @Nat.lt_log2_self n
    have hp : 2 ^ (n.log2 + 2) = 2 * 2 ^ (n.log2 + 1) := by rw [Nat.pow_succ, Nat.mul_comm]
    have hp2 : 2 ^ (n.log2 + 2) ≤ 2 ^ d := Nat.pow_le_pow_right (by omega) (by omega)
    have hm : min d (n.log2 + 2) = n.log2 + 2 := by omega
    have e1 : n / 2 ^ (n.log2 + 2) = 0 := Nat.div_eq_of_lt (by omega)
    have e2 : n / 2 ^ d = 0 := Nat.div_eq_of_lt (by omega)
    have e3 : n % 2 ^ (n.log2 + 2) = n := Nat.mod_eq_of_lt (by omega)
    have e4 : n % 2 ^ d = n := Nat.mod_eq_of_lt (by omega)
    unfold Toward.cut moreOf
    simp only [hm, Nat.one_shiftLeft, e1, e2, e3, e4]
    cases way
    · have a1 : ¬ (2 ^ (n.log2 + 2) < 2 * n) := by omega
      have a2 : ¬ (2 ^ d < 2 * n) := by omega
      simp [a1, a2]
    · rfl
    · rfl
    · rfl

/-- 'cut' goes by the value. -/
theorem cut_shift (way : Toward) (neg : Bool) (n d k : Nat) : way.cut neg (n * 2 ^ k) (d + k) = way.cut neg n d := by
  have hk := Nat.two_pow_pos k
  rw [cut_eq, cut_eq, Nat.pow_add, Nat.mul_div_mul_right _ _ hk, Nat.mul_mod_mul_right]
  congr 2
  cases way
  · have e : (2 ^ d * 2 ^ k < 2 * (n % 2 ^ d * 2 ^ k)) ↔ (2 ^ d < 2 * (n % 2 ^ d)) := by
      rw [← Nat.mul_assoc]; exact Nat.mul_lt_mul_right hk
    have e' : (2 ^ d * 2 ^ k = 2 * (n % 2 ^ d * 2 ^ k)) ↔ (2 ^ d = 2 * (n % 2 ^ d)) := by
      rw [← Nat.mul_assoc]; exact Nat.mul_left_inj (by omega)
    unfold moreOf
    simp only [e, Bool.beq_eq_decide_eq, e']
  · unfold moreOf; congr 1
    rw [Bool.eq_iff_iff]; simp [Nat.mul_eq_zero]
  · unfold moreOf; congr 1
    rw [Bool.eq_iff_iff]; simp [Nat.mul_eq_zero]
  · rfl

theorem cut_zero_drop (way : Toward) (neg : Bool) (n : Nat) : way.cut neg n 0 = n := by
  rw [cut_eq]
  cases way <;> simp [moreOf, Nat.mod_one]

/-- 'nearest' goes by the value. -/
theorem nearest_shift (f : Format) (neg : Bool) (m : Nat) (p : Int) (k : Nat) : f.nearest neg (m * 2 ^ k) (p - k) = f.nearest neg m p := by
  unfold Format.nearest
  by_cases hm : m = 0
  · simp [hm]
  have hmk : m * 2 ^ k ≠ 0 := Nat.mul_ne_zero hm (Nat.ne_of_gt (Nat.two_pow_pos k))
  rw [if_neg hm, if_neg hmk]
  have hl : (p - k + ((m * 2 ^ k).log2 : Nat) - f.fractionBits) = (p + (m.log2 : Nat) - f.fractionBits) := by
    rw [log2_mul_pow hm]; omega
  simp only [hl]
  generalize max (p + (m.log2 : Nat) - f.fractionBits : Int) f.leastPlace = last
  congr 3
  simp only [Nat.shiftLeft_eq]
  by_cases h1 : last ≤ p - k
  · rw [show (last - (p - k)).toNat = 0 by omega, show (last - p).toNat = 0 by omega, Nat.mul_assoc, ← Nat.pow_add, show k + (p - k - last).toNat = (p - last).toNat by omega]
  · have e0 : (p - k - last).toNat = 0 := by omega
    rw [e0, Nat.pow_zero, Nat.mul_one]
    by_cases h2 : p ≤ last
    · rw [show (last - (p - k)).toNat = (last - p).toNat + k by omega, cut_shift, show (p - last).toNat = 0 by omega, Nat.pow_zero, Nat.mul_one]
    · rw [show (last - p).toNat = 0 by omega]
      obtain ⟨j, hj⟩ : ∃ j : Nat, (p - last).toNat + j = k := ⟨k - (p - last).toNat, by omega⟩
      have : (last - (p - k)).toNat = 0 + j := by omega
      rw [this, ← hj, Nat.pow_add, ← Nat.mul_assoc, cut_shift]

/-! ### Words of the format 'double' -/
theorem d_binade : double.binade = 4503599627370496 := rfl
theorem d_inf : double.infRung = 9218868437227405312 := rfl
theorem d_sign : double.signWeight = 9223372036854775808 := rfl
theorem d_least : double.leastPlace = -1074 := rfl
theorem d_frac : double.fractionBits = 52 := rfl

/-- What a rung stands for. -/
def rungDatum (neg : Bool) (rung : Nat) : Datum :=
  if rung < double.binade then .number neg rung double.leastPlace
  else if rung < double.infRung then
    .number neg (double.binade + rung % double.binade) (double.leastPlace + (rung / double.binade - 1 : Nat))
  else if rung = double.infRung then .infinity neg
  else .nan neg (rung - double.infRung)

theorem read_word (neg : Bool) (rung : Nat) (h : rung < double.signWeight) : double.read (double.word neg rung) = rungDatum neg rung := by
  unfold Format.read Format.word rungDatum
  rw [d_sign] at *
  cases neg
  · have e1 : rung / 9223372036854775808 = 0 := by omega
    have e2 : rung % 9223372036854775808 = rung := by omega
    simp only [Bool.false_eq_true, if_false, e1, e2]
    rfl
  · have e1 : (9223372036854775808 + rung) / 9223372036854775808 = 1 := by omega
    have e2 : (9223372036854775808 + rung) % 9223372036854775808 = rung := by omega
    simp only [if_true, e1, e2]
    rfl

theorem p52 : (2 : Nat) ^ 52 = 4503599627370496 := rfl
theorem p53 : (2 : Nat) ^ 53 = 9007199254740992 := rfl

theorem log2_lt53 {m : Nat} (h0 : m ≠ 0) (h : m < 9007199254740992) : m.log2 ≤ 52 := by
  have := (Nat.log2_lt h0 (k := 53)).2 (by rw [p53]; exact h)
  omega

theorem number_congr {s : Bool} {m m' : Nat} {i i' : Int} (h1 : m = m') (h2 : i = i') : Datum.number s m i = .number s m' i' := by
  rw [h1, h2]

/-- A number of at most 53 digits in the format's range of normal numbers is written as it is. -/
theorem read_nearest (neg : Bool) (m : Nat) (p : Int) (h0 : m ≠ 0) (h : m < 9007199254740992) (hlo : -1022 ≤ p + m.log2) (hhi : p + m.log2 ≤ 1023) :
    double.read (double.nearest neg m p) = .number neg (m * 2 ^ (52 - m.log2)) (p - (52 - m.log2 : Nat)) := by
  have hl := log2_lt53 h0 h
  unfold Format.nearest
  rw [if_neg h0]
  have hlast : max (p + (m.log2 : Nat) - double.fractionBits : Int) double.leastPlace = p - (52 - m.log2 : Nat) := by
    rw [d_frac, d_least]; omega
  simp only [hlast]
  generalize hk : 52 - m.log2 = k at *
  have e1 : (p - (p - (k : Int))).toNat = k := by omega
  have e2 : (p - (k : Int) - p).toNat = 0 := by omega
  rw [e1, e2, cut_zero_drop, Nat.shiftLeft_eq]
  have b1 : 4503599627370496 ≤ m * 2 ^ k := by
    have := Nat.mul_le_mul_right (2 ^ k) (Nat.log2_self_le h0)
    rw [← Nat.pow_add, show m.log2 + k = 52 by omega, p52] at this
    exact this
  have b2 : m * 2 ^ k < 9007199254740992 := by
    have := Nat.mul_lt_mul_of_pos_right (@Nat.lt_log2_self m) (Nat.two_pow_pos k)
    rw [← Nat.pow_add, show m.log2 + 1 + k = 53 by omega, p53] at this
    exact this
  generalize m * 2 ^ k = M at *
  rw [d_least, d_inf, d_binade]
  generalize hq : (p - (k : Int) - -1074).toNat = q
  have hq2 : q ≤ 2045 := by omega
  have hq3 : p - (k : Int) = -1074 + q := by omega
  clear hlast e1 e2 hq hk h h0 hl hlo hhi
  have hb : q * 4503599627370496 + M < 9218868437227405312 := by omega
  have hr : min (q * 4503599627370496 + M) 9218868437227405312 = q * 4503599627370496 + M := Nat.min_eq_left (Nat.le_of_lt hb)
  rw [hr, read_word _ _ (by rw [d_sign]; omega)]
  unfold rungDatum
  rw [d_binade, d_inf, d_least, if_neg (by omega), if_pos (by omega)]
  exact number_congr (by omega) (by omega)

theorem read_zero (neg : Bool) (p : Int) : double.read (double.nearest neg 0 p) = .number neg 0 (-1074) := by
  unfold Format.nearest
  rw [if_pos rfl, read_word _ _ (by decide)]
  rfl

/-- What is written of a number is no NaN. -/
theorem read_nearest_not_nan (neg : Bool) (m : Nat) (p : Int) : (double.read (double.nearest neg m p)).isNaN = false := by
  have key : ∀ r, r ≤ double.infRung → (double.read (double.word neg r)).isNaN = false := by
    intro r hr
    rw [read_word _ _ (by rw [d_inf] at hr; rw [d_sign]; omega)]
    unfold rungDatum
    split
    · rfl
    split
    · rfl
    split
    · rfl
    · omega
  unfold Format.nearest
  split
  · exact key _ (Nat.zero_le _)
  · exact key _ (Nat.min_le_right ..)

/-! ### The order -/
theorem signed_eq (s : Bool) (m u : Nat) : signed s m u = (if s then -(m : Int) else m) * 2 ^ u := by
  unfold signed
  rw [Nat.shiftLeft_eq]
  cases s <;> simp [Int.neg_mul]

theorem compare_mul (a b : Int) (u : Nat) : compare (a * 2 ^ u) (b * 2 ^ u) = compare a b := by
  have hp : (0 : Int) < 2 ^ u := Int.pow_pos (by omega)
  rcases Int.lt_trichotomy a b with h | h | h
  · rw [Int.compare_eq_lt.2 h, Int.compare_eq_lt]; exact Int.mul_lt_mul_of_pos_right h hp
  · subst h; rw [Int.compare_eq_eq.2 rfl, Int.compare_eq_eq.2 rfl]
  · rw [Int.compare_eq_gt.2 h, Int.compare_eq_gt]; exact Int.mul_lt_mul_of_pos_right h hp

/-- The order of two numbers, at any common place. -/
theorem order_at (s t : Bool) (m n : Nat) (i j b : Int) (hi : b ≤ i) (hj : b ≤ j) :
    Datum.order (.number s m i) (.number t n j) = some (compare (signed s m (i - b).toNat) (signed t n (j - b).toNat)) := by
  unfold Datum.order
  simp only
  congr 1
  obtain ⟨u, hu⟩ : ∃ u : Nat, min i j = b + u := ⟨(min i j - b).toNat, by omega⟩
  have e1 : (i - b).toNat = (i - min i j).toNat + u := by omega
  have e2 : (j - b).toNat = (j - min i j).toNat + u := by omega
  rw [e1, e2]
  simp only [signed_eq, Int.pow_add, ← Int.mul_assoc]
  rw [compare_mul]

/-- A datum that is no NaN is equal to itself. -/
theorem order_self (d : Datum) (h : d.isNaN = false) : d.order d = some .eq := by
  cases d with
  | number s m i => unfold Datum.order; simp only; rw [Int.compare_eq_eq.2 rfl]
  | infinity s => unfold Datum.order; simp only; cases s <;> rfl
  | nan s t => cases h

/-! ### Values: 'number s (m * 2 ^ k) (p - k)' stands for 'm * 2 ^ p' with its sign -/
/-- A magnitude with its sign. -/
def sg (s : Bool) (m : Nat) : Int := if s then -(m : Int) else m

theorem signed_sg (s : Bool) (m k : Nat) (p : Int) (K : Nat) (h : k ≤ K) : signed s (m * 2 ^ k) (p - k - (p - K)).toNat = sg s m * 2 ^ K := by
  rw [signed_eq, show (p - k - (p - K)).toNat = K - k by omega]
  have e : (2 : Int) ^ K = 2 ^ k * 2 ^ (K - k) := by rw [← Int.pow_add]; congr 1; omega
  unfold sg
  cases s
  · simp only [Bool.false_eq_true, if_false]; rw [e, Int.natCast_mul, Int.natCast_pow, Int.mul_assoc]; rfl
  · simp only [if_true]; rw [e, Int.natCast_mul, Int.natCast_pow, ← Int.neg_mul, Int.mul_assoc]; rfl

theorem order_val (s t : Bool) (m n ka kb : Nat) (p : Int) :
    Datum.order (.number s (m * 2 ^ ka) (p - ka)) (.number t (n * 2 ^ kb) (p - kb)) = some (compare (sg s m) (sg t n)) := by
  rw [order_at _ _ _ _ _ _ (p - (max ka kb : Nat)) (by omega) (by omega), signed_sg _ _ _ _ _ (by omega), signed_sg _ _ _ _ _ (by omega), compare_mul]

/-- The sign of a sum. -/
def sumSign (s t : Bool) (x : Int) : Bool := if x = 0 then s && t else decide (x < 0)

theorem sum_val (s t : Bool) (m n ka kb : Nat) (p : Int) :
    (Datum.sum (.number s (m * 2 ^ ka) (p - ka)) (.number t (n * 2 ^ kb) (p - kb))).map double.write =
      some (double.nearest (sumSign s t (sg s m + sg t n)) (sg s m + sg t n).natAbs p) := by
  unfold Datum.sum
  simp only
  have hb : min (p - (ka : Int)) (p - (kb : Int)) = p - (max ka kb : Nat) := by omega
  rw [hb, signed_sg _ _ _ _ _ (by omega), signed_sg _ _ _ _ _ (by omega), ← Int.add_mul]
  generalize max ka kb = K
  generalize sg s m + sg t n = x
  have hp : (0 : Int) < 2 ^ K := Int.pow_pos (by omega)
  have e1 : (x * 2 ^ K).natAbs = x.natAbs * 2 ^ K := by
    rw [Int.natAbs_mul, Int.natAbs_pow]; rfl
  have e2 : (if x * 2 ^ K = 0 then s && t else decide (x * 2 ^ K < 0)) = sumSign s t x := by
    unfold sumSign
    have a1 : (x * 2 ^ K = 0) ↔ x = 0 := by
      rw [Int.mul_eq_zero]; constructor
      · rintro (h | h)
        · exact h
        · omega
      · exact .inl
    have a2 : (x * 2 ^ K < 0) ↔ x < 0 := by
      constructor
      · intro h
        by_cases hx : x < 0
        · exact hx
        · have := Int.mul_nonneg (show 0 ≤ x by omega) (Int.le_of_lt hp); omega
      · intro h; exact Int.mul_neg_of_neg_of_pos h hp
    simp only [a1, a2]
  simp only [Option.map_some, e1, e2, Format.write]
  rw [nearest_shift]

/-- 'float64(n)'. -/
def fi (n : Int) : Nat := double.nearest (decide (n < 0)) n.natAbs 0

theorem sg_natAbs (n : Int) : sg (decide (n < 0)) n.natAbs = n := by
  unfold sg
  by_cases h : n < 0
  · simp [h]; omega
  · simp [h]; omega

/-- A number of at most 53 digits at the place p: how it is read back ('k' digits were filled in). -/
theorem read_val (s : Bool) (m : Nat) (p : Int) (h : m < 9007199254740992) (hlo : -900 ≤ p) (hhi : p ≤ 900) :
    ∃ k : Nat, double.read (double.nearest s m p) = .number s (m * 2 ^ k) (p - k) ∧ (m = 0 ∨ k = 52 - m.log2) ∧ (m = 0 → (k : Int) = p + 1074) := by
  by_cases h0 : m = 0
  · subst h0
    refine ⟨(p + 1074).toNat, ?_, .inl rfl, fun _ => by omega⟩
    rw [read_zero, Nat.zero_mul]
    exact number_congr rfl (by omega)
  · have hl := log2_lt53 h0 h
    exact ⟨_, read_nearest s m p h0 h (by omega) (by omega), .inr rfl, fun e => absurd e h0⟩

theorem read_fi (n : Int) (h : n.natAbs < 9007199254740992) : ∃ k : Nat, double.read (fi n) = .number (decide (n < 0)) (n.natAbs * 2 ^ k) (0 - k) := by
  obtain ⟨k, hk, _⟩ := read_val (decide (n < 0)) n.natAbs 0 h (by omega) (by omega)
  exact ⟨k, hk⟩

theorem add_fi (a b : Int) (ha : a.natAbs < 9007199254740992) (hb : b.natAbs < 9007199254740992) : double.add (fi a) (fi b) = some (fi (a + b)) := by
  obtain ⟨ka, ea⟩ := read_fi a ha
  obtain ⟨kb, eb⟩ := read_fi b hb
  unfold Format.add
  rw [ea, eb, sum_val, sg_natAbs, sg_natAbs]
  unfold fi
  congr 2
  unfold sumSign
  by_cases h : a + b = 0
  · rw [if_pos h]
    by_cases h1 : a < 0
    · have : ¬ b < 0 := by omega
      have : ¬ (a + b < 0) := by omega
      simp [*]
    · have : ¬ (a + b < 0) := by omega
      simp [*]
  · rw [if_neg h]

theorem order_fi (a b : Int) (ha : a.natAbs < 9007199254740992) (hb : b.natAbs < 9007199254740992) : double.order (fi a) (fi b) = some (compare a b) := by
  obtain ⟨ka, ea⟩ := read_fi a ha
  obtain ⟨kb, eb⟩ := read_fi b hb
  unfold Format.order
  rw [ea, eb, order_val, sg_natAbs, sg_natAbs]

/-- A quotient of two whole numbers, the divisor not nought: it is no NaN. -/
theorem div_fi (a b : Int) (ha : a.natAbs < 9007199254740992) (hb : b.natAbs < 9007199254740992) (h0 : b ≠ 0) :
    ∃ r, double.div (fi a) (fi b) = some r ∧ double.order r r = some .eq := by
  obtain ⟨ka, ea⟩ := read_fi a ha
  obtain ⟨kb, eb⟩ := read_fi b hb
  unfold Format.div
  rw [ea, eb]
  unfold Datum.quotient
  simp only
  have hn : b.natAbs * 2 ^ kb ≠ 0 := Nat.mul_ne_zero (by omega) (Nat.ne_of_gt (Nat.two_pow_pos kb))
  rw [if_neg hn]
  refine ⟨_, rfl, ?_⟩
  unfold Format.order
  exact order_self _ (read_nearest_not_nan _ _ _)

theorem div_zero : double.div (fi 0) (fi 0) = none := by
  have e : double.read (fi 0) = .number false 0 (-1074) := read_zero _ _
  unfold Format.div
  rw [e]
  rfl

end Go.Proofs.Youaew.Fl
