/-
  The plain mathematics of ceil: at the points n + f / 65536; at every float. No Go in sight.
-/
import Derived.Test.YouaewFloat
namespace Go.Proofs.Youaew.Fl
open Ieee

theorem order_near (s t : Bool) (m n : Nat) (p : Int) (hm : m < 9007199254740992) (hn : n < 9007199254740992) (hlo : -900 ≤ p) (hhi : p ≤ 900) :
    double.order (double.nearest s m p) (double.nearest t n p) = some (compare (sg s m) (sg t n)) := by
  obtain ⟨ka, ea, _⟩ := read_val s m p hm hlo hhi
  obtain ⟨kb, eb, _⟩ := read_val t n p hn hlo hhi
  unfold Format.order
  rw [ea, eb, order_val]

theorem fi_65536 : fi 65536 = 4679240012837945344 := by decide +kernel
theorem fi_1 : fi 1 = 4607182418800017408 := by decide +kernel

theorem read_65536 : double.read (fi 65536) = .number false (2 ^ 52) (0 - 36) := by
  decide +kernel

/-- 'float64(f) / 65536' is exact. -/
theorem div_65536 (f : Nat) (hf : f < 9007199254740992) : double.div (fi f) (fi 65536) = some (double.nearest false f (-16)) := by
  obtain ⟨k, e, ek, _⟩ := read_val (decide ((f : Int) < 0)) (f : Int).natAbs 0 (by omega) (by omega) (by omega)
  have hnn : (f : Int).natAbs = f := by omega
  have hneg : decide ((f : Int) < 0) = false := by simp
  rw [hnn] at ek
  have e1 : double.read (fi f) = .number false (f * 2 ^ k) (0 - k) := by
    rw [hnn, hneg] at e
    unfold fi
    rw [hnn, hneg]
    exact e
  have hlogA : (f * 2 ^ k).log2 ≤ 52 := by
    by_cases hz : f = 0
    · rw [hz, Nat.zero_mul]; decide
    · rw [log2_mul_pow hz]; have := log2_lt53 hz hf; omega
  unfold Format.div
  rw [e1, read_65536]
  unfold Datum.quotient
  simp only
  rw [if_neg (Nat.ne_of_gt (Nat.two_pow_pos 52)), Nat.log2_two_pow]
  obtain ⟨more, hmore⟩ : ∃ more, double.fractionBits + 2 + 52 - (f * 2 ^ k).log2 = more + 52 := ⟨106 - (f * 2 ^ k).log2 - 52, by rw [d_frac]; omega⟩
  rw [hmore]
  simp only [Option.map_some, Format.write, Nat.shiftLeft_eq, Bool.xor_false]
  have h1 : f * 2 ^ k * 2 ^ (more + 52) = f * 2 ^ (k + more) * 2 ^ 52 := by
    simp only [Nat.mul_assoc, ← Nat.pow_add]
    rw [Nat.add_assoc]
  rw [h1, Nat.mul_mod_left, Nat.mul_div_cancel _ (Nat.two_pow_pos 52)]
  have h2 : 2 * (f * 2 ^ (k + more)) + ((0 : Nat) != 0).toNat = f * 2 ^ (k + more + 1) := by
    have : ((0 : Nat) != 0).toNat = 0 := by decide
    rw [this, Nat.pow_succ, Nat.add_zero, ← Nat.mul_assoc f, Nat.mul_comm 2]
  rw [h2, show (0 : Int) - k - (0 - 36) - (more + 52 : Nat) - 1 = -16 - (k + more + 1 : Nat) by omega, nearest_shift]

/-- 'float64(n) + float64(f) / 65536' is exact. -/
theorem add_grid (n : Int) (f : Nat) (h1 : -2147483648 ≤ n) (h2 : n ≤ 2147483647) (hf : f < 65536) :
    double.add (fi n) (double.nearest false f (-16)) = some (double.nearest (decide (n * 65536 + f < 0)) (n * 65536 + f).natAbs (-16)) := by
  obtain ⟨k, e, ek, ez⟩ := read_val (decide (n < 0)) n.natAbs 0 (by omega) (by omega) (by omega)
  obtain ⟨l, e2, _⟩ := read_val false f (-16) (by omega) (by omega) (by omega)
  have hk : 16 ≤ k := by
    by_cases hz : n.natAbs = 0
    · have := ez hz; omega
    · have hl : n.natAbs.log2 < 32 := (Nat.log2_lt hz).2 (by have : (2 : Nat) ^ 32 = 4294967296 := by decide
                                                             rw [this]; omega)
      omega
  obtain ⟨j, rfl⟩ : ∃ j, k = j + 16 := ⟨k - 16, by omega⟩
  have e1 : double.read (fi n) = .number (decide (n < 0)) ((n.natAbs * 65536) * 2 ^ j) (-16 - j) := by
    have e' : double.read (fi n) = .number (decide (n < 0)) (n.natAbs * 2 ^ (j + 16)) (0 - (j + 16 : Nat)) := e
    rw [e', Nat.pow_add, Nat.mul_comm (2 ^ j), ← Nat.mul_assoc]
    exact number_congr rfl (by omega)
  unfold Format.add
  rw [e1, e2, sum_val]
  have hx : sg (decide (n < 0)) (n.natAbs * 65536) + sg false f = n * 65536 + f := by
    unfold sg
    by_cases h : n < 0
    · simp [h]; omega
    · simp [h]; omega
  rw [hx]
  congr 2
  unfold sumSign
  by_cases h : n * 65536 + f = 0
  · rw [if_pos h, decide_eq_false (show ¬ (n * 65536 + (f : Int) < 0) by omega), Bool.and_false]
  · rw [if_neg h]

/-- Ceil of 'm * 2 ^ -16' with its sign. -/
theorem ceil_grid (s : Bool) (m : Nat) (hm : m < 9007199254740992) :
    double.write ((double.read (double.nearest s m (-16))).integral .up) = double.nearest s (m / 65536 + (!s && m % 65536 != 0).toNat) 0 := by
  obtain ⟨k, e, _⟩ := read_val s m (-16) hm (by omega) (by omega)
  rw [e]
  unfold Datum.integral
  simp only [Format.write]
  rw [show ((-16 : Int) - k).toNat = 0 by omega, show (-((-16 : Int) - k)).toNat = 16 + k by omega, Nat.shiftLeft_zero, cut_shift, cut_eq]
  rfl

/-- THE LAW at the grid's points: ceil gives n, or n + 1 where f is not nought. -/
theorem grid_law (n : Int) (f : Nat) (h1 : -2147483648 ≤ n) (h2 : n ≤ 2147483647) (hf : f < 65536) :
    double.order (double.write ((double.read (double.nearest (decide (n * 65536 + f < 0)) (n * 65536 + f).natAbs (-16))).integral .up)) (fi (if f = 0 then n else n + 1)) = some .eq := by
  rw [ceil_grid _ _ (by omega)]
  unfold fi
  have hb : ∀ b : Bool, b.toNat ≤ 1 := fun b => by cases b <;> decide
  have hK := hb (!decide (n * 65536 + f < 0) && (n * 65536 + (f : Int)).natAbs % 65536 != 0)
  rw [order_near _ _ _ _ _ (by omega) (by split <;> omega) (by omega) (by omega), sg_natAbs]
  congr 1
  rw [Int.compare_eq_eq]
  unfold sg
  by_cases hN : n * 65536 + (f : Int) < 0
  · simp only [hN, decide_true, if_true, Bool.not_true, Bool.false_and, Bool.toNat_false]
    split <;> omega
  · simp only [hN, decide_false, Bool.false_eq_true, if_false, Bool.not_false, Bool.true_and]
    by_cases hf0 : f = 0
    · have : (n * 65536 + (f : Int)).natAbs % 65536 = 0 := by omega
      have h3 : ((n * 65536 + (f : Int)).natAbs % 65536 != 0) = false := by simpa using this
      rw [h3, if_pos hf0]
      simp only [Bool.toNat_false]
      omega
    · have : (n * 65536 + (f : Int)).natAbs % 65536 ≠ 0 := by omega
      have h3 : ((n * 65536 + (f : Int)).natAbs % 65536 != 0) = true := by simpa using this
      rw [h3, if_neg hf0]
      simp only [Bool.toNat_true]
      omega

end Go.Proofs.Youaew.Fl
