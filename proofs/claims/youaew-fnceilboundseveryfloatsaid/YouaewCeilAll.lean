/-
  The plain mathematics of ceil at every float. No Go in sight.
-/
import Derived.Test.YouaewFloat
import Derived.Test.YouaewGrid
namespace Go.Proofs.Youaew.Fl
open Ieee

theorem read_rung (x : Nat) : double.read x = rungDatum (x / double.signWeight % 2 == 1) (x % double.signWeight) := rfl

/-- What a word's number looks like. -/
theorem read_cases (x : Nat) (s : Bool) (m : Nat) (i : Int) (h : double.read x = .number s m i) :
    m < 9007199254740992 ∧ -1074 ≤ i ∧ i ≤ 971 ∧ (0 ≤ i → 4503599627370496 ≤ m) := by
  rw [read_rung] at h
  generalize x % double.signWeight = r at h
  unfold rungDatum at h
  by_cases h1 : r < double.binade
  · rw [if_pos h1] at h
    injection h with a b c
    rw [d_binade] at h1
    rw [d_least] at c
    exact ⟨by omega, by omega, by omega, by omega⟩
  · rw [if_neg h1] at h
    by_cases h2 : r < double.infRung
    · rw [if_pos h2] at h
      injection h with a b c
      rw [d_binade] at h1 b c
      rw [d_inf] at h2
      rw [d_least] at c
      exact ⟨by omega, by omega, by omega, by omega⟩
    · rw [if_neg h2] at h
      by_cases h3 : r = double.infRung
      · rw [if_pos h3] at h; cases h
      · rw [if_neg h3] at h; cases h

theorem sg_natAbs' (t : Int) (s : Bool) (h : t = 0 ∨ s = decide (t < 0)) : sg s t.natAbs = t := by
  rcases h with h | h
  · subst h; unfold sg; cases s <;> rfl
  · rw [h]; exact sg_natAbs t

/-- A whole number against 'm * 2 ^ -d'. -/
theorem order_whole (s t : Bool) (K m d : Nat) (hK : K < 9007199254740992) :
    Datum.order (double.read (double.nearest s K 0)) (.number t m (0 - d)) = some (compare (sg s K * 2 ^ d) (sg t m)) ∧
    Datum.order (.number t m (0 - d)) (double.read (double.nearest s K 0)) = some (compare (sg t m) (sg s K * 2 ^ d)) := by
  obtain ⟨k, e, _⟩ := read_val s K 0 hK (by omega) (by omega)
  rw [e]
  have h1 : signed s (K * 2 ^ k) ((0 : Int) - k - (0 - (k + d : Nat))).toNat = sg s K * 2 ^ d * 2 ^ k := by
    rw [signed_sg s K k 0 (k + d) (by omega), Int.pow_add, Int.mul_comm (2 ^ k), ← Int.mul_assoc]
  have h2 : signed t m ((0 : Int) - d - (0 - (k + d : Nat))).toNat = sg t m * 2 ^ k := by
    rw [signed_eq, show ((0 : Int) - d - (0 - (k + d : Nat))).toNat = k by omega]
    rfl
  constructor
  · rw [order_at _ _ _ _ _ _ (0 - (k + d : Nat)) (by omega) (by omega), h1, h2, compare_mul]
  · rw [order_at _ _ _ _ _ _ (0 - (k + d : Nat)) (by omega) (by omega), h1, h2, compare_mul]

/-- 'c - 1', c whole. -/
theorem sub_one (s : Bool) (K : Nat) (hK : K < 9007199254740992) :
    double.sub (double.nearest s K 0) (fi 1) = some (double.nearest (sumSign s true (sg s K - 1)) (sg s K - 1).natAbs 0) := by
  obtain ⟨k, e, _⟩ := read_val s K 0 hK (by omega) (by omega)
  have e1 : (double.read (fi 1)).opposite = .number true (1 * 2 ^ 52) (0 - (52 : Nat)) := by decide +kernel
  unfold Format.sub
  rw [e, e1, sum_val]
  have : sg s K + sg true 1 = sg s K - 1 := by
    have : sg true 1 = -1 := rfl
    omega
  rw [this]

/-- What the law asks of c = ceil x, once x is a number. -/
structure Good (x c : Nat) : Prop where
  self : double.order c c = some .eq
  bound : double.order c x = some .eq ∨ (double.order c x ≠ some .eq ∧ double.order x c = some .lt ∧ ∃ d, double.sub c (fi 1) = some d ∧ double.order d x = some .lt)

theorem good_frac (x : Nat) (s : Bool) (m d : Nat) (hd : 0 < d) (hm : m < 9007199254740992) (h : double.read x = .number s m (0 - d)) :
    Good x (double.nearest s (m / 2 ^ d + (!s && m % 2 ^ d != 0).toNat) 0) ∧ m / 2 ^ d + (!s && m % 2 ^ d != 0).toNat < 9007199254740991 := by
  have hb : ∀ b : Bool, b.toNat ≤ 1 := fun b => by cases b <;> decide
  have hbb := hb (!s && m % 2 ^ d != 0)
  have h2d : 2 ≤ 2 ^ d := by
    obtain ⟨j, rfl⟩ : ∃ j, d = j + 1 := ⟨d - 1, by omega⟩
    have := Nat.two_pow_pos j
    rw [Nat.pow_succ]; omega
  have hq : m / 2 ^ d < 4503599627370496 := by
    rw [Nat.div_lt_iff_lt_mul (by omega)]
    have : 4503599627370496 * 2 ≤ 4503599627370496 * 2 ^ d := Nat.mul_le_mul_left _ h2d
    generalize 4503599627370496 * 2 ^ d = T at *
    omega
  have hKlt : m / 2 ^ d + (!s && m % 2 ^ d != 0).toNat < 9007199254740991 := by omega
  refine ⟨?_, hKlt⟩
  have hdm := Nat.div_add_mod m (2 ^ d)
  have hml := Nat.mod_lt m (show 0 < 2 ^ d by omega)
  have hself : ∀ K, double.order (double.nearest s K 0) (double.nearest s K 0) = some .eq := fun K => by
    unfold Format.order; exact order_self _ (read_nearest_not_nan _ _ _)
  refine ⟨hself _, ?_⟩
  have hcast : ∀ K : Nat, ((K : Int) * 2 ^ d) = ((K * 2 ^ d : Nat) : Int) := fun K => by rw [Int.natCast_mul, Int.natCast_pow]; rfl
  unfold Format.order
  rw [h]
  by_cases hr : m % 2 ^ d = 0
  · left
    have e0 : (!s && m % 2 ^ d != 0).toNat = 0 := by rw [hr]; cases s <;> rfl
    rw [e0, Nat.add_zero, (order_whole s s (m / 2 ^ d) m d (by omega)).1, Int.compare_eq_eq.2]
    have hh : m / 2 ^ d * 2 ^ d = m := by rw [Nat.mul_comm]; omega
    unfold sg
    cases s
    · simp only [Bool.false_eq_true, if_false]; rw [hcast, hh]
    · simp only [if_true]; rw [Int.neg_mul, hcast, hh]
  · right
    have hne : (m % 2 ^ d != 0) = true := by simpa using hr
    rw [Nat.mul_comm] at hdm
    have hrp : 0 < m % 2 ^ d := by omega
    generalize m / 2 ^ d = q at *
    cases s
    · have e0 : (!false && m % 2 ^ d != 0).toNat = 1 := by rw [hne]; rfl
      rw [e0]
      have hlt : m < (q + 1) * 2 ^ d := by rw [Nat.add_mul]; omega
      have hlt2 : (q) * 2 ^ d < m := by omega
      have hsgl : sg false (q + 1) * 2 ^ d = (((q + 1) * 2 ^ d : Nat) : Int) := by rw [← hcast]; rfl
      have hsgm : sg false m = (m : Int) := rfl
      refine ⟨?_, ?_, _, sub_one false (q + 1) (by omega), ?_⟩
      · rw [(order_whole false false (q + 1) m d (by omega)).1]
        rw [Int.compare_eq_gt.2 (by rw [hsgl, hsgm]; omega)]
        intro hx; cases hx
      · rw [(order_whole false false (q + 1) m d (by omega)).2]
        rw [Int.compare_eq_lt.2 (by rw [hsgl, hsgm]; omega)]
      · have hs1 : sg false (q + 1) - 1 = ((q : Nat) : Int) := by
          unfold sg; simp only [Bool.false_eq_true, if_false]; omega
        rw [hs1]
        have habs : ((q : Nat) : Int).natAbs = q := by omega
        rw [(order_whole _ false _ m d (by omega)).1, sg_natAbs' _ _ ?_]
        · rw [Int.compare_eq_lt.2 (by rw [hcast, hsgm]; omega)]
        · unfold sumSign
          by_cases hz : ((q : Nat) : Int) = 0
          · exact .inl hz
          · right; rw [if_neg hz]
    · have e0 : (!true && m % 2 ^ d != 0).toNat = 0 := rfl
      rw [e0, Nat.add_zero]
      have hlt : m < (q + 1) * 2 ^ d := by rw [Nat.add_mul]; omega
      have hlt2 : (q) * 2 ^ d < m := by omega
      have hsgl : sg true (q) * 2 ^ d = -(((q) * 2 ^ d : Nat) : Int) := by
        rw [← hcast]; unfold sg; simp only [if_true]; rw [Int.neg_mul]
      have hsgm : sg true m = -(m : Int) := rfl
      refine ⟨?_, ?_, _, sub_one true (q) (by omega), ?_⟩
      · rw [(order_whole true true (q) m d (by omega)).1]
        rw [Int.compare_eq_gt.2 (by rw [hsgl, hsgm]; omega)]
        intro hx; cases hx
      · rw [(order_whole true true (q) m d (by omega)).2]
        rw [Int.compare_eq_lt.2 (by rw [hsgl, hsgm]; omega)]
      · have hs1 : sg true (q) - 1 = -((q + 1 : Nat) : Int) := by
          unfold sg; simp only [if_true]; omega
        rw [hs1]
        have habs : (-((q + 1 : Nat) : Int)).natAbs = q + 1 := by omega
        rw [(order_whole _ true _ m d (by omega)).1, sg_natAbs' _ _ ?_]
        · rw [Int.compare_eq_lt.2 (by rw [Int.neg_mul, hcast, hsgm]; omega)]
        · unfold sumSign
          right; rw [if_neg (by omega)]

/-- int64(c) and back, c whole and small. -/
theorem toInt_small (s : Bool) (K : Nat) (hK : K < 9007199254740992) :
    (double.read (double.nearest s K 0)).toInt .zero = some (sg s K) ∧ double.order (fi (sg s K)) (double.nearest s K 0) = some .eq := by
  constructor
  · obtain ⟨k, e, _⟩ := read_val s K 0 hK (by omega) (by omega)
    rw [e]
    unfold Datum.toInt Datum.integral
    simp only
    rw [show ((0 : Int) - k).toNat = 0 by omega, show (-((0 : Int) - k)).toNat = 0 + k by omega, Nat.shiftLeft_zero, cut_shift, cut_zero_drop, signed_eq, Int.pow_zero, Int.mul_one]
    rfl
  · unfold fi
    have hsg : (sg s K).natAbs = K := by unfold sg; cases s <;> simp
    rw [order_near _ _ _ _ _ (by omega) hK (by omega) (by omega), sg_natAbs, Int.compare_eq_eq.2 rfl]

theorem read_cneg : double.read 14109754808297022976 = .number true 8984375000000000 9 := by decide +kernel
theorem read_cpos : double.read 4886382771442247168 = .number false 8984375000000000 9 := by decide +kernel

/-- A number without a fraction. -/
theorem good_whole (x : Nat) (s : Bool) (m I : Nat) (hm : m < 9007199254740992) (hm0 : 4503599627370496 ≤ m) (hI : I ≤ 971) (h : double.read x = .number s m I) :
    Good x (double.nearest s (m * 2 ^ I) 0) ∧ (double.order (double.nearest s (m * 2 ^ I) 0) 14109754808297022976 = some .gt → double.order (double.nearest s (m * 2 ^ I) 0) 4886382771442247168 = some .lt →
      ∃ v : Int, (double.read (double.nearest s (m * 2 ^ I) 0)).toInt .zero = some v ∧ -9223372036854775808 ≤ v ∧ v ≤ 9223372036854775807 ∧ double.order (fi v) (double.nearest s (m * 2 ^ I) 0) = some .eq) := by
  have hlog : m.log2 = 52 := by
    have h1 := log2_lt53 (by omega) hm
    have h2 : 52 ≤ m.log2 := (Nat.le_log2 (by omega)).2 (by rw [p52]; exact hm0)
    omega
  have hc : double.nearest s (m * 2 ^ I) 0 = double.nearest s m I := by
    have := nearest_shift double s m I I
    rw [show (I : Int) - I = 0 by omega] at this
    exact this
  have hr : double.read (double.nearest s (m * 2 ^ I) 0) = .number s m I := by
    rw [hc, read_nearest s m I (by omega) hm (by omega) (by omega), hlog]
    exact number_congr (by omega) (by omega)
  have hself : double.order (double.nearest s (m * 2 ^ I) 0) (double.nearest s (m * 2 ^ I) 0) = some .eq := by
    unfold Format.order; exact order_self _ (read_nearest_not_nan _ _ _)
  refine ⟨⟨hself, .inl ?_⟩, ?_⟩
  · unfold Format.order
    rw [h, hr]
    exact order_self _ rfl
  · intro g1 g2
    unfold Format.order at g1 g2
    rw [hr, read_cneg, order_at _ _ _ _ _ _ 0 (by omega) (by omega), show ((I : Int) - 0).toNat = I by omega] at g1
    rw [hr, read_cpos, order_at _ _ _ _ _ _ 0 (by omega) (by omega), show ((I : Int) - 0).toNat = I by omega] at g2
    have g1' := Int.compare_eq_gt.1 (Option.some.inj g1)
    have g2' := Int.compare_eq_lt.1 (Option.some.inj g2)
    have c1 : signed true 8984375000000000 ((9 : Int) - 0).toNat = -4600000000000000000 := by decide +kernel
    have c2 : signed false 8984375000000000 ((9 : Int) - 0).toNat = 4600000000000000000 := by decide +kernel
    rw [c1] at g1'
    rw [c2] at g2'
    have hv : signed s m I = sg s (m * 2 ^ I) := by
      rw [signed_eq]
      unfold sg
      cases s
      · simp only [Bool.false_eq_true, if_false]; rw [Int.natCast_mul, Int.natCast_pow]; rfl
      · simp only [if_true]; rw [Int.natCast_mul, Int.natCast_pow, Int.neg_mul]; rfl
    rw [hv] at g1' g2'
    refine ⟨sg s (m * 2 ^ I), ?_, by omega, by omega, ?_⟩
    · rw [hr]
      unfold Datum.toInt Datum.integral
      simp only
      rw [show ((I : Int)).toNat = I by omega, show (-(I : Int)).toNat = 0 by omega, cut_zero_drop, Nat.shiftLeft_eq, signed_eq, Int.pow_zero, Int.mul_one]
      rfl
    · have hpos : 0 < m * 2 ^ I := Nat.mul_pos (by omega) (Nat.two_pow_pos I)
      have hfi : fi (sg s (m * 2 ^ I)) = double.nearest s (m * 2 ^ I) 0 := by
        unfold fi
        generalize m * 2 ^ I = T at hpos
        have e1 : (sg s T).natAbs = T := by unfold sg; cases s <;> simp
        have e2 : decide (sg s T < 0) = s := by
          unfold sg
          cases s
          · simp
          · simp; omega
        rw [e1, e2]
      rw [hfi]
      exact hself

/-- THE LAW, whatever the float, so it is no NaN. -/
theorem law (x : Nat) (hn : (double.read x).isNaN = false) :
    Good x (double.write ((double.read x).integral .up)) ∧
    (double.order (double.write ((double.read x).integral .up)) 14109754808297022976 = some .gt → double.order (double.write ((double.read x).integral .up)) 4886382771442247168 = some .lt →
      ∃ v : Int, (double.read (double.write ((double.read x).integral .up))).toInt .zero = some v ∧ -9223372036854775808 ≤ v ∧ v ≤ 9223372036854775807 ∧ double.order (fi v) (double.write ((double.read x).integral .up)) = some .eq) := by
  cases hx : double.read x with
  | nan s t => rw [hx] at hn; cases hn
  | infinity s =>
    have hr : double.read (double.write (Datum.integral .up (.infinity s))) = .infinity s := by
      show double.read (double.word s double.infRung) = _
      rw [read_word _ _ (by decide)]
      unfold rungDatum
      rw [if_neg (by decide), if_neg (by omega), if_pos rfl]
    generalize double.write (Datum.integral .up (.infinity s)) = c at hr
    refine ⟨⟨?_, .inl ?_⟩, ?_⟩
    · unfold Format.order; rw [hr]; exact order_self _ rfl
    · unfold Format.order; rw [hr, hx]; exact order_self _ rfl
    · unfold Format.order
      rw [hr, read_cneg, read_cpos]
      cases s
      · intro _ h; cases h
      · intro h; cases h
  | number s m i =>
    obtain ⟨hm, hlo, hhi, hmi⟩ := read_cases x s m i hx
    by_cases hi : 0 ≤ i
    · obtain ⟨I, rfl⟩ := Int.eq_ofNat_of_zero_le hi
      have e : double.write (Datum.integral .up (.number s m I)) = double.nearest s (m * 2 ^ I) 0 := by
        unfold Datum.integral
        simp only [Format.write]
        rw [show ((I : Int)).toNat = I by omega, show (-(I : Int)).toNat = 0 by omega, cut_zero_drop, Nat.shiftLeft_eq]
      rw [e]
      exact good_whole x s m I hm (hmi hi) (by omega) hx
    · obtain ⟨d, hd⟩ : ∃ d : Nat, i = 0 - d := ⟨(-i).toNat, by omega⟩
      subst hd
      have e : double.write (Datum.integral .up (.number s m (0 - d))) = double.nearest s (m / 2 ^ d + (!s && m % 2 ^ d != 0).toNat) 0 := by
        unfold Datum.integral
        simp only [Format.write]
        rw [show ((0 : Int) - d).toNat = 0 by omega, show (-((0 : Int) - d)).toNat = d by omega, Nat.shiftLeft_zero, cut_eq]
        rfl
      rw [e]
      obtain ⟨g, hK⟩ := good_frac x s m d (by omega) hm hx
      refine ⟨g, fun _ _ => ?_⟩
      obtain ⟨t1, t2⟩ := toInt_small s _ (show m / 2 ^ d + (!s && m % 2 ^ d != 0).toNat < 9007199254740992 by omega)
      generalize m / 2 ^ d + (!s && m % 2 ^ d != 0).toNat = K at *
      have hsg : sg s K = K ∨ sg s K = -(K : Int) := by unfold sg; cases s <;> simp
      exact ⟨_, t1, by omega, by omega, t2⟩

end Go.Proofs.Youaew.Fl
