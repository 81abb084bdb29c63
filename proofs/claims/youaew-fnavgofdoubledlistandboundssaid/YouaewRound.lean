/-
  The plain mathematics of rounding: it keeps the order; the quotient of two whole numbers. No Go in sight.
-/
import Derived.Test.YouaewFloat
namespace Go.Proofs.Youaew.Fl
open Ieee

theorem cut_mono (neg : Bool) (n n' d : Nat) (h : n ≤ n') : Toward.even.cut neg n d ≤ Toward.even.cut neg n' d := by
  rw [cut_eq, cut_eq]
  have hg := Nat.two_pow_pos d
  generalize 2 ^ d = g at *
  have h1 : n / g ≤ n' / g := Nat.div_le_div_right h
  have hb : ∀ b : Bool, b.toNat ≤ 1 := fun b => by cases b <;> decide
  by_cases h2 : n / g = n' / g
  · have e1 := Nat.div_add_mod n g
    have e2 := Nat.div_add_mod n' g
    have h3 : n % g ≤ n' % g := by
      rw [h2] at e1; omega
    rw [h2]
    have h4 : moreOf .even neg g (n' / g) (n % g) = true → moreOf .even neg g (n' / g) (n' % g) = true := by
      unfold moreOf
      simp only [Bool.or_eq_true, Bool.and_eq_true, decide_eq_true_eq, beq_iff_eq]
      omega
    have h5 : (moreOf .even neg g (n' / g) (n % g)).toNat ≤ (moreOf .even neg g (n' / g) (n' % g)).toNat := by
      cases hx : moreOf .even neg g (n' / g) (n % g)
      · exact Nat.zero_le _
      · rw [h4 hx]; exact Nat.le_refl _
    omega
  · have := hb (moreOf .even neg g (n / g) (n % g))
    omega

theorem cut_le (neg : Bool) (n d : Nat) : Toward.even.cut neg n d ≤ n / 2 ^ d + 1 := by
  rw [cut_eq]
  have hb : ∀ b : Bool, b.toNat ≤ 1 := fun b => by cases b <;> decide
  have := hb (moreOf .even neg (2 ^ d) (n / 2 ^ d) (n % 2 ^ d))
  omega

theorem le_cut (neg : Bool) (n d : Nat) : n / 2 ^ d ≤ Toward.even.cut neg n d := by
  rw [cut_eq]; omega

/-- The place of the last digit that is kept. -/
def lastOf (m : Nat) (p : Int) : Int := max (p + m.log2 - 52) (-1074)

/-- What is kept. -/
def keptOf (m : Nat) (p : Int) : Nat := Toward.even.cut false (m * 2 ^ (p - lastOf m p).toNat) (lastOf m p - p).toNat

/-- The rung of 'm * 2 ^ p', rounded. -/
def rung (m : Nat) (p : Int) : Nat := if m = 0 then 0 else min ((lastOf m p + 1074).toNat * 4503599627370496 + keptOf m p) double.infRung

theorem cut_even_neg (neg : Bool) (n d : Nat) : Toward.even.cut neg n d = Toward.even.cut false n d := by
  rw [cut_eq, cut_eq]; rfl

theorem nearest_rung (neg : Bool) (m : Nat) (p : Int) : double.nearest neg m p = double.word neg (rung m p) := by
  unfold Format.nearest rung keptOf lastOf
  by_cases h : m = 0
  · rw [if_pos h, if_pos h]
  · rw [if_neg h, if_neg h]
    simp only [d_frac, d_least, d_binade, Nat.shiftLeft_eq]
    rw [cut_even_neg]
    rfl

theorem rung_le (m : Nat) (p : Int) : rung m p ≤ double.infRung := by
  unfold rung
  split
  · exact Nat.zero_le _
  · exact Nat.min_le_right ..

theorem kept_le (m : Nat) (p : Int) : keptOf m p ≤ 9007199254740992 := by
  unfold keptOf
  have hl := @Nat.lt_log2_self m
  have hL : p + m.log2 - 52 ≤ lastOf m p := by unfold lastOf; omega
  generalize lastOf m p = L at *
  rw [← p53]
  by_cases h : L ≤ p
  · rw [show (L - p).toNat = 0 by omega, cut_zero_drop]
    have h1 : m * 2 ^ (p - L).toNat ≤ 2 ^ (m.log2 + 1) * 2 ^ (p - L).toNat := Nat.mul_le_mul_right _ (Nat.le_of_lt hl)
    rw [← Nat.pow_add] at h1
    exact Nat.le_trans h1 (Nat.pow_le_pow_right (by omega) (by omega))
  · rw [show (p - L).toNat = 0 by omega, Nat.pow_zero, Nat.mul_one]
    have h1 := cut_le false m (L - p).toNat
    have h2 : m < 2 ^ 53 * 2 ^ (L - p).toNat := by
      rw [← Nat.pow_add]
      exact Nat.lt_of_lt_of_le hl (Nat.pow_le_pow_right (by omega) (by omega))
    have h3 : m / 2 ^ (L - p).toNat < 2 ^ 53 := (Nat.div_lt_iff_lt_mul (Nat.two_pow_pos _)).2 h2
    omega

theorem le_kept (m : Nat) (p : Int) (h0 : m ≠ 0) (hn : -1074 ≤ p + m.log2 - 52) : 4503599627370496 ≤ keptOf m p := by
  unfold keptOf
  have hl := Nat.log2_self_le h0
  have hL : lastOf m p = p + m.log2 - 52 := by unfold lastOf; omega
  rw [hL, ← p52]
  by_cases h : m.log2 ≤ 52
  · rw [show (p + (m.log2 : Int) - 52 - p).toNat = 0 by omega, cut_zero_drop]
    have h1 : 2 ^ m.log2 * 2 ^ (p - (p + m.log2 - 52)).toNat ≤ m * 2 ^ (p - (p + m.log2 - 52)).toNat := Nat.mul_le_mul_right _ hl
    rw [← Nat.pow_add] at h1
    exact Nat.le_trans (Nat.pow_le_pow_right (by omega) (by omega)) h1
  · rw [show (p - (p + (m.log2 : Int) - 52)).toNat = 0 by omega, Nat.pow_zero, Nat.mul_one]
    refine Nat.le_trans ?_ (le_cut false m _)
    rw [Nat.le_div_iff_mul_le (Nat.two_pow_pos _), ← Nat.pow_add]
    exact Nat.le_trans (Nat.pow_le_pow_right (by omega) (by omega)) hl

theorem log2_mono {m m' : Nat} (h0 : m ≠ 0) (h : m ≤ m') : m.log2 ≤ m'.log2 := by
  have h1 := Nat.log2_self_le h0
  have h2 := @Nat.lt_log2_self m'
  by_cases hh : m.log2 ≤ m'.log2
  · exact hh
  · have : 2 ^ (m'.log2 + 1) ≤ 2 ^ m.log2 := Nat.pow_le_pow_right (by omega) (by omega)
    omega

/-- Rounding keeps the order. -/
theorem rung_mono (m m' : Nat) (p : Int) (h : m ≤ m') : rung m p ≤ rung m' p := by
  by_cases h0 : m = 0
  · unfold rung; rw [if_pos h0]; exact Nat.zero_le _
  have h0' : m' ≠ 0 := by omega
  have hlog := log2_mono h0 h
  have key : (lastOf m p + 1074).toNat * 4503599627370496 + keptOf m p ≤ (lastOf m' p + 1074).toNat * 4503599627370496 + keptOf m' p := by
    by_cases e : lastOf m p = lastOf m' p
    · have : keptOf m p ≤ keptOf m' p := by
        unfold keptOf
        rw [e]
        exact cut_mono _ _ _ _ (Nat.mul_le_mul_right _ h)
      rw [e]; omega
    · have a1 : lastOf m p < lastOf m' p := by unfold lastOf at *; omega
      have a2 : -1074 ≤ p + m'.log2 - 52 := by unfold lastOf at *; omega
      have a3 : -1074 ≤ lastOf m p := by unfold lastOf; omega
      have k1 := kept_le m p
      have k2 := le_kept m' p h0' a2
      have a4 : (lastOf m p + 1074).toNat + 1 ≤ (lastOf m' p + 1074).toNat := by omega
      generalize (lastOf m p + 1074).toNat = u at *
      generalize (lastOf m' p + 1074).toNat = v at *
      omega
  unfold rung
  rw [if_neg h0, if_neg h0']
  exact Nat.le_min.2 ⟨Nat.le_trans (Nat.min_le_left ..) key, Nat.min_le_right ..⟩

/-! ### The order of rungs -/
/-- Less or equal. -/
def LE (o : Option Ordering) : Prop := o = some .lt ∨ o = some .eq

theorem LE.of_compare {a b : Int} (h : a ≤ b) : LE (some (compare a b)) := by
  rcases Int.lt_or_eq_of_le h with h1 | h1
  · exact .inl (by rw [Int.compare_eq_lt.2 h1])
  · exact .inr (by rw [Int.compare_eq_eq.2 h1])

/-- A rung's number in units of the least place. -/
def valOf (r : Nat) : Nat := if r < 4503599627370496 then r else (4503599627370496 + r % 4503599627370496) * 2 ^ (r / 4503599627370496 - 1)

theorem rungDatum_val (s : Bool) (r : Nat) (h : r < double.infRung) : ∃ k : Nat, ∃ m : Nat, rungDatum s r = .number s m (-1074 + k) ∧ m * 2 ^ k = valOf r := by
  unfold rungDatum valOf
  rw [d_binade, d_least]
  by_cases h1 : r < 4503599627370496
  · rw [if_pos h1, if_pos h1]
    exact ⟨0, r, number_congr rfl (by omega), by rw [Nat.pow_zero, Nat.mul_one]⟩
  · rw [if_neg h1, if_neg h1, if_pos h]
    exact ⟨_, _, rfl, rfl⟩

theorem valOf_mono (a b : Nat) (h : a ≤ b) : valOf a ≤ valOf b := by
  unfold valOf
  by_cases ha : a < 4503599627370496
  · rw [if_pos ha]
    by_cases hb : b < 4503599627370496
    · rw [if_pos hb]; exact h
    · rw [if_neg hb]
      have := Nat.mul_le_mul_left (4503599627370496 + b % 4503599627370496) (Nat.two_pow_pos (b / 4503599627370496 - 1))
      generalize (4503599627370496 + b % 4503599627370496) * 2 ^ (b / 4503599627370496 - 1) = c at *
      omega
  · have hb : ¬ b < 4503599627370496 := by omega
    rw [if_neg ha, if_neg hb]
    by_cases e : a / 4503599627370496 = b / 4503599627370496
    · rw [e]
      exact Nat.mul_le_mul_right _ (by omega)
    · obtain ⟨d, hd⟩ : ∃ d, b / 4503599627370496 - 1 = (a / 4503599627370496 - 1) + 1 + d := ⟨b / 4503599627370496 - 1 - (a / 4503599627370496 - 1) - 1, by omega⟩
      rw [hd, Nat.pow_add, Nat.pow_add]
      generalize 2 ^ (a / 4503599627370496 - 1) = g
      have hp := Nat.two_pow_pos d
      generalize 2 ^ d = t at *
      have h1 : (4503599627370496 + a % 4503599627370496) * g ≤ (4503599627370496 * 2) * g := Nat.mul_le_mul_right _ (by omega)
      refine Nat.le_trans h1 ?_
      have h2 : 4503599627370496 * (g * 2 ^ 1 * 1) ≤ (4503599627370496 + b % 4503599627370496) * (g * 2 ^ 1 * t) := Nat.mul_le_mul (by omega) (Nat.mul_le_mul_left _ hp)
      refine Nat.le_trans (Nat.le_of_eq ?_) h2
      rw [Nat.pow_one, Nat.mul_one, Nat.mul_assoc, Nat.mul_comm 2 g]

theorem order_pos (a b : Nat) (h : a ≤ b) (hb : b ≤ double.infRung) : LE ((rungDatum false a).order (rungDatum false b)) := by
  by_cases e : b < double.infRung
  · obtain ⟨k, m, e1, v1⟩ := rungDatum_val false a (by omega)
    obtain ⟨k', m', e2, v2⟩ := rungDatum_val false b e
    rw [e1, e2, order_at _ _ _ _ _ _ (-1074) (by omega) (by omega), signed_eq, signed_eq]
    refine LE.of_compare ?_
    have := valOf_mono a b h
    rw [← v1, ← v2] at this
    rw [show (-1074 + (k : Int) - -1074).toNat = k by omega, show (-1074 + (k' : Int) - -1074).toNat = k' by omega]
    simp only [Bool.false_eq_true, if_false]
    have h2 : ((m * 2 ^ k : Nat) : Int) ≤ ((m' * 2 ^ k' : Nat) : Int) := by omega
    rw [Int.natCast_mul, Int.natCast_mul, Int.natCast_pow, Int.natCast_pow] at h2
    exact h2
  · have eb : b = double.infRung := by omega
    have hib : rungDatum false b = .infinity false := by
      rw [eb]; unfold rungDatum
      rw [if_neg (by decide), if_neg (by omega), if_pos rfl]
    rw [hib]
    by_cases ea : a < double.infRung
    · obtain ⟨k, m, e1, v1⟩ := rungDatum_val false a ea
      rw [e1]; exact .inl rfl
    · have eab : a = b := by omega
      rw [eab, hib]; exact .inr rfl

theorem rungDatum_inf (s : Bool) : rungDatum s double.infRung = .infinity s := by
  unfold rungDatum
  rw [if_neg (by decide), if_neg (by omega), if_pos rfl]

theorem order_neg (a b : Nat) (h : a ≤ b) (hb : b ≤ double.infRung) : LE ((rungDatum true b).order (rungDatum true a)) := by
  by_cases e : b < double.infRung
  · obtain ⟨k, m, e1, v1⟩ := rungDatum_val true a (by omega)
    obtain ⟨k', m', e2, v2⟩ := rungDatum_val true b e
    rw [e1, e2, order_at _ _ _ _ _ _ (-1074) (by omega) (by omega), signed_eq, signed_eq]
    refine LE.of_compare ?_
    have := valOf_mono a b h
    rw [← v1, ← v2] at this
    rw [show (-1074 + (k : Int) - -1074).toNat = k by omega, show (-1074 + (k' : Int) - -1074).toNat = k' by omega]
    simp only [if_true]
    have h2 : ((m * 2 ^ k : Nat) : Int) ≤ ((m' * 2 ^ k' : Nat) : Int) := by omega
    rw [Int.natCast_mul, Int.natCast_mul, Int.natCast_pow, Int.natCast_pow] at h2
    rw [Int.neg_mul, Int.neg_mul]
    exact Int.neg_le_neg h2
  · have eb : b = double.infRung := by omega
    rw [eb, rungDatum_inf]
    by_cases ea : a < double.infRung
    · obtain ⟨k, m, e1, v1⟩ := rungDatum_val true a ea
      rw [e1]; exact .inl rfl
    · have eab : a = double.infRung := by omega
      rw [eab, rungDatum_inf]; exact .inr rfl

theorem order_cross (a b : Nat) (ha : a ≤ double.infRung) (hb : b ≤ double.infRung) : LE ((rungDatum true a).order (rungDatum false b)) := by
  by_cases ea : a < double.infRung
  · obtain ⟨k, m, e1, v1⟩ := rungDatum_val true a ea
    rw [e1]
    by_cases eb : b < double.infRung
    · obtain ⟨k', m', e2, v2⟩ := rungDatum_val false b eb
      rw [e2]
      unfold Datum.order
      simp only [signed_eq, if_true, Bool.false_eq_true, if_false]
      refine LE.of_compare ?_
      generalize (-1074 + (k : Int) - min (-1074 + (k : Int)) (-1074 + (k' : Int))).toNat = u
      generalize (-1074 + (k' : Int) - min (-1074 + (k : Int)) (-1074 + (k' : Int))).toNat = v
      have h1 : (0 : Int) ≤ (m : Int) * 2 ^ u := Int.mul_nonneg (by omega) (Int.le_of_lt (Int.pow_pos (by omega)))
      have h2 : (0 : Int) ≤ (m' : Int) * 2 ^ v := Int.mul_nonneg (by omega) (Int.le_of_lt (Int.pow_pos (by omega)))
      rw [Int.neg_mul]
      omega
    · rw [show b = double.infRung by omega, rungDatum_inf]; exact .inl rfl
  · rw [show a = double.infRung by omega, rungDatum_inf]
    by_cases eb : b < double.infRung
    · obtain ⟨k', m', e2, v2⟩ := rungDatum_val false b eb
      rw [e2]; exact .inl rfl
    · rw [show b = double.infRung by omega, rungDatum_inf]; exact .inl rfl

theorem read_near (s : Bool) (m : Nat) (p : Int) : double.read (double.nearest s m p) = rungDatum s (rung m p) := by
  rw [nearest_rung]
  exact read_word _ _ (Nat.lt_of_le_of_lt (rung_le m p) (by decide))

theorem near_pos (m m' : Nat) (p : Int) (h : m ≤ m') : LE (double.order (double.nearest false m p) (double.nearest false m' p)) := by
  unfold Format.order
  rw [read_near, read_near]
  exact order_pos _ _ (rung_mono m m' p h) (rung_le _ _)

theorem near_neg (m m' : Nat) (p : Int) (h : m ≤ m') : LE (double.order (double.nearest true m' p) (double.nearest true m p)) := by
  unfold Format.order
  rw [read_near, read_near]
  exact order_neg _ _ (rung_mono m m' p h) (rung_le _ _)

theorem near_cross (m m' : Nat) (p p' : Int) : LE (double.order (double.nearest true m p) (double.nearest false m' p')) := by
  unfold Format.order
  rw [read_near, read_near]
  exact order_cross _ _ (rung_le _ _) (rung_le _ _)

/-! ### The quotient of two whole numbers -/
/-- The quotient of 'a * 2 ^ k' and 'n * 2 ^ l', cut, with the digit that tells of a rest, is 'Q': it stands to every whole number as the quotient itself does. -/
theorem sticky_le (a n k l more E m : Nat) (hn : 0 < n) (hE : E + l = more + k) (h : m * n ≤ a) :
    m * 2 ^ (E + 1) ≤ 2 * (a * 2 ^ k * 2 ^ more / (n * 2 ^ l)) + (a * 2 ^ k * 2 ^ more % (n * 2 ^ l) != 0).toNat := by
  have h1 : m * 2 ^ E ≤ a * 2 ^ k * 2 ^ more / (n * 2 ^ l) := by
    rw [Nat.le_div_iff_mul_le (Nat.mul_pos hn (Nat.two_pow_pos l))]
    have e : m * 2 ^ E * (n * 2 ^ l) = (m * n) * 2 ^ (k + more) := by
      rw [show k + more = E + l by omega, Nat.pow_add]
      simp only [Nat.mul_assoc, Nat.mul_comm, Nat.mul_left_comm]
    rw [e, show a * 2 ^ k * 2 ^ more = a * 2 ^ (k + more) by rw [Nat.mul_assoc, ← Nat.pow_add]]
    exact Nat.mul_le_mul_right _ h
  rw [Nat.pow_succ, ← Nat.mul_assoc]
  omega

theorem sticky_ge (a n k l more E m : Nat) (hn : 0 < n) (hE : E + l = more + k) (h : a ≤ m * n) :
    2 * (a * 2 ^ k * 2 ^ more / (n * 2 ^ l)) + (a * 2 ^ k * 2 ^ more % (n * 2 ^ l) != 0).toNat ≤ m * 2 ^ (E + 1) := by
  have h1 : a * 2 ^ k * 2 ^ more ≤ m * 2 ^ E * (n * 2 ^ l) := by
    have e : m * 2 ^ E * (n * 2 ^ l) = (m * n) * 2 ^ (k + more) := by
      rw [show k + more = E + l by omega, Nat.pow_add]
      simp only [Nat.mul_assoc, Nat.mul_comm, Nat.mul_left_comm]
    rw [e, Nat.mul_assoc, ← Nat.pow_add]
    exact Nat.mul_le_mul_right _ h
  rw [Nat.pow_succ, ← Nat.mul_assoc]
  generalize a * 2 ^ k * 2 ^ more = D at *
  have hN : 0 < n * 2 ^ l := Nat.mul_pos hn (Nat.two_pow_pos l)
  generalize n * 2 ^ l = N at *
  generalize m * 2 ^ E = X at *
  have e := Nat.div_add_mod D N
  have hle : D / N ≤ X := by
    rw [Nat.div_le_iff_le_mul hN]; omega
  by_cases hr : D % N = 0
  · simp [hr]; omega
  · have : D / N < X := by
      rcases Nat.lt_or_eq_of_le hle with h2 | h2
      · exact h2
      · rw [h2, Nat.mul_comm] at e; omega
    have hb : ∀ b : Bool, b.toNat ≤ 1 := fun b => by cases b <;> decide
    have := hb (D % N != 0)
    omega

/-- What 'float64(S) / float64(n)' is. -/
theorem div_form (S : Int) (n : Nat) (hS : S.natAbs < 9007199254740992) (hn : n < 9007199254740992) (h0 : 0 < n) :
    ∃ Q E : Nat, double.div (fi S) (fi n) = some (double.nearest (decide (S < 0)) Q (0 - (E + 1 : Nat))) ∧
      (∀ m : Nat, m * n ≤ S.natAbs → m * 2 ^ (E + 1) ≤ Q) ∧ (∀ m : Nat, S.natAbs ≤ m * n → Q ≤ m * 2 ^ (E + 1)) := by
  obtain ⟨k, ea, ek, ez⟩ := read_val (decide (S < 0)) S.natAbs 0 hS (by omega) (by omega)
  obtain ⟨l, eb, el, _⟩ := read_val (decide ((n : Int) < 0)) (n : Int).natAbs 0 (by omega) (by omega) (by omega)
  have hnn : (n : Int).natAbs = n := by omega
  have hneg : decide ((n : Int) < 0) = false := by simp
  rw [hnn, hneg] at eb
  rw [hnn] at el
  have hl : l = 52 - n.log2 := by omega
  have hln := log2_lt53 (by omega) hn
  have hlogN : (n * 2 ^ l).log2 = 52 := by rw [log2_mul_pow (by omega)]; omega
  have hlogA : (S.natAbs * 2 ^ k).log2 ≤ 52 := by
    by_cases hz : S.natAbs = 0
    · rw [hz, Nat.zero_mul]; decide
    · rw [log2_mul_pow hz]; have := log2_lt53 hz hS; omega
  unfold Format.div
  have e1 : double.read (fi S) = .number (decide (S < 0)) (S.natAbs * 2 ^ k) (0 - k) := ea
  have e2 : double.read (fi n) = .number false (n * 2 ^ l) (0 - l) := by
    unfold fi; rw [hnn, hneg]; exact eb
  rw [e1, e2]
  unfold Datum.quotient
  simp only
  rw [if_neg (Nat.ne_of_gt (Nat.mul_pos h0 (Nat.two_pow_pos l)))]
  have hm : double.fractionBits + 2 + (n * 2 ^ l).log2 - (S.natAbs * 2 ^ k).log2 = 106 - (S.natAbs * 2 ^ k).log2 := by rw [d_frac, hlogN]
  rw [hm]
  generalize hmore : 106 - (S.natAbs * 2 ^ k).log2 = more
  simp only [Option.map_some, Format.write, Nat.shiftLeft_eq, Bool.xor_false]
  obtain ⟨E, hE⟩ : ∃ E, E + l = more + k := ⟨more + k - l, by omega⟩
  refine ⟨2 * (S.natAbs * 2 ^ k * 2 ^ more / (n * 2 ^ l)) + (S.natAbs * 2 ^ k * 2 ^ more % (n * 2 ^ l) != 0).toNat, E, ?_, fun m h => sticky_le _ _ _ _ _ _ _ h0 hE h, fun m h => sticky_ge _ _ _ _ _ _ _ h0 hE h⟩
  rw [show (0 : Int) - k - (0 - l) - more - 1 = 0 - (E + 1 : Nat) by omega]

/-- A whole number that is not above the quotient is not above it when rounded. -/
theorem div_lower (S m : Int) (n r : Nat) (hS : S.natAbs < 9007199254740992) (hn : n < 9007199254740992) (h0 : 0 < n) (hr : double.div (fi S) (fi n) = some r) (h : m * n ≤ S) :
    LE (double.order (fi m) r) := by
  obtain ⟨Q, E, hd, hlo, hhi⟩ := div_form S n hS hn h0
  rw [hd] at hr
  cases hr
  unfold fi
  by_cases hm : m < 0
  · rw [decide_eq_true hm]
    by_cases hs : S < 0
    · rw [decide_eq_true hs, ← nearest_shift double true m.natAbs 0 (E + 1)]
      refine near_neg _ _ _ (hhi _ ?_)
      have : ((m.natAbs * n : Nat) : Int) = -(m * n) := by
        rw [Int.natCast_mul, ← Int.neg_mul]; congr 1; omega
      omega
    · rw [decide_eq_false hs]; exact near_cross _ _ _ _
  · have hs : ¬ S < 0 := by
      have := Int.mul_nonneg (show 0 ≤ m by omega) (show (0 : Int) ≤ n by omega)
      omega
    rw [decide_eq_false hm, decide_eq_false hs, ← nearest_shift double false m.natAbs 0 (E + 1)]
    refine near_pos _ _ _ (hlo _ ?_)
    have : ((m.natAbs * n : Nat) : Int) = m * n := by
      rw [Int.natCast_mul]; congr 1; omega
    omega

theorem div_upper (S m : Int) (n r : Nat) (hS : S.natAbs < 9007199254740992) (hn : n < 9007199254740992) (h0 : 0 < n) (hr : double.div (fi S) (fi n) = some r) (h : S ≤ m * n) :
    LE (double.order r (fi m)) := by
  obtain ⟨Q, E, hd, hlo, hhi⟩ := div_form S n hS hn h0
  rw [hd] at hr
  cases hr
  unfold fi
  by_cases hm : m < 0
  · have hs : S < 0 := by
      have := Int.mul_neg_of_neg_of_pos hm (show (0 : Int) < n by omega)
      omega
    rw [decide_eq_true hm, decide_eq_true hs, ← nearest_shift double true m.natAbs 0 (E + 1)]
    refine near_neg _ _ _ (hlo _ ?_)
    have : ((m.natAbs * n : Nat) : Int) = -(m * n) := by
      rw [Int.natCast_mul, ← Int.neg_mul]; congr 1; omega
    omega
  · rw [decide_eq_false hm]
    by_cases hs : S < 0
    · rw [decide_eq_true hs]; exact near_cross _ _ _ _
    · rw [decide_eq_false hs, ← nearest_shift double false m.natAbs 0 (E + 1)]
      refine near_pos _ _ _ (hhi _ ?_)
      have : ((m.natAbs * n : Nat) : Int) = m * n := by
        rw [Int.natCast_mul]; congr 1; omega
      omega

/-- A whole number that is not nought, read: 'k' digits are filled in; twice the number is read with one digit fewer. -/
theorem read_twice (S : Int) (h0 : S ≠ 0) (h : S.natAbs < 4503599627370496) :
    ∃ k : Nat, double.read (fi S) = .number (decide (S < 0)) (S.natAbs * 2 ^ (k + 1)) (0 - (k + 1 : Nat)) ∧ double.read (fi (2 * S)) = .number (decide (S < 0)) (S.natAbs * 2 ^ (k + 1)) (0 - k) := by
  obtain ⟨k, e1, ek, _⟩ := read_val (decide (S < 0)) S.natAbs 0 (by omega) (by omega) (by omega)
  obtain ⟨k', e2, ek', _⟩ := read_val (decide (2 * S < 0)) (2 * S).natAbs 0 (by omega) (by omega) (by omega)
  have hl : S.natAbs.log2 ≤ 51 := by
    have := (Nat.log2_lt (n := S.natAbs) (by omega) (k := 52)).2 (by rw [p52]; exact h)
    omega
  have hn : (2 * S).natAbs = S.natAbs * 2 ^ 1 := by omega
  have hlog : (2 * S).natAbs.log2 = S.natAbs.log2 + 1 := by rw [hn, log2_mul_pow (by omega)]
  have hk : k = 51 - S.natAbs.log2 + 1 := by omega
  have hk' : k' = 51 - S.natAbs.log2 := by omega
  subst hk hk'
  refine ⟨51 - S.natAbs.log2, e1, ?_⟩
  have hs : decide (2 * S < 0) = decide (S < 0) := by
    by_cases hs : S < 0
    · rw [decide_eq_true hs, decide_eq_true (by omega)]
    · rw [decide_eq_false hs, decide_eq_false (by omega)]
  have e3 : double.read (fi (2 * S)) = .number (decide (2 * S < 0)) ((2 * S).natAbs * 2 ^ (51 - S.natAbs.log2)) (0 - (51 - S.natAbs.log2 : Nat)) := e2
  rw [e3, hs, hn, Nat.mul_assoc, ← Nat.pow_add, Nat.add_comm 1]

theorem nearest_zero (s : Bool) (p p' : Int) : double.nearest s 0 p = double.nearest s 0 p' := by
  unfold Format.nearest
  rw [if_pos rfl, if_pos rfl]

/-- The quotient of the doubles is the quotient. -/
theorem div_double (S n : Int) (hS : S.natAbs < 4503599627370496) (hn : n.natAbs < 4503599627370496) (h0 : 0 < n) : double.div (fi (2 * S)) (fi (2 * n)) = double.div (fi S) (fi n) := by
  obtain ⟨l, n1, n2⟩ := read_twice n (by omega) hn
  unfold Format.div
  have hnz : n.natAbs * 2 ^ (l + 1) ≠ 0 := Nat.ne_of_gt (Nat.mul_pos (by omega) (Nat.two_pow_pos _))
  by_cases hz : S = 0
  · subst hz
    have e : double.read (fi 0) = .number false 0 (-1074) := read_zero _ _
    rw [n1, n2, show (2 : Int) * 0 = 0 by omega, e]
    unfold Datum.quotient
    have e0 : 2 * 0 + ((0 : Nat) != 0).toNat = 0 := by decide
    simp only [if_neg hnz, Nat.zero_shiftLeft, Nat.zero_div, Nat.zero_mod, Option.map_some, Format.write, e0]
    exact congrArg some (nearest_zero ..)
  · obtain ⟨k, s1, s2⟩ := read_twice S hz hS
    rw [n1, n2, s1, s2]
    unfold Datum.quotient
    simp only [if_neg hnz]
    rw [show (0 : Int) - (k + 1 : Nat) - (0 - (l + 1 : Nat)) = 0 - k - (0 - l) by omega]

end Go.Proofs.Youaew.Fl
