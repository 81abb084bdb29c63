/-
  The walk of FnAvgOfDoubledListAndBounds (function 6) and of its callee zzBytes (17).
-/
import Derived.Test.YouaewRows
import Derived.Test.YouaewFloat
import Derived.Test.YouaewRound
import Derived.Test.YouaewAvg
import Derived.Test.YouaewAvgMean
import Derived.WalkKit
import Derived.WalkSpells
import Derived.WalkLawsBesides
import Derived.Deep.OwnRows
namespace Go.Proofs.Youaew.fnAvgOfDoubledListAndBounds
open Go.RowKit
open Fl (fi)
open fnAvgOfIntegersIsExactMean (fls fls_step psum_bound run_store_float nan_neq)
set_option linter.unusedVariables false
attribute [local go_sem] floatOfInt_fi run_store_float

/-- The list written twice, k numbers of each laid. -/
def dds (z : Nat → Int) (n k : Nat) : Nat → Value := fun j => if j < k ∨ (n ≤ j ∧ j < n + k) then .float .f64 (fi (if j < n then z j else z (j - n))) else .float .f64 0

theorem dds_step (z : Nat → Int) (n k j : Nat) (hk : k < n) : (if j = n + k then .float .f64 (fi (z k)) else if j = k then .float .f64 (fi (z k)) else dds z n k j) = dds z n (k + 1) j := by
  unfold dds
  by_cases e : j = n + k
  · subst e
    rw [if_pos rfl, if_pos (by omega), if_neg (by omega), Nat.add_sub_cancel_left]
  · rw [if_neg e]
    by_cases e2 : j = k
    · subst e2
      rw [if_pos rfl, if_pos (by omega), if_pos hk]
    · rw [if_neg e2]
      by_cases h : j < k ∨ (n ≤ j ∧ j < n + k)
      · have h' : j < k + 1 ∨ (n ≤ j ∧ j < n + (k + 1)) := by omega
        rw [if_pos h, if_pos h']
      · have h' : ¬ (j < k + 1 ∨ (n ≤ j ∧ j < n + (k + 1))) := by omega
        rw [if_neg h, if_neg h']

/-- The list written twice. -/
def twice (z : Nat → Int) (n : Nat) : Nat → Int := fun j => if j < n then z j else z (j - n)

theorem psum_twice_lo (z : Nat → Int) (n : Nat) : ∀ k, k ≤ n → psum (twice z n) k = psum z k
  | 0, _ => rfl
  | k + 1, h => by
    simp only [psum]
    rw [psum_twice_lo z n k (by omega)]
    unfold twice
    rw [if_pos (by omega)]

theorem psum_twice_hi (z : Nat → Int) (n : Nat) : ∀ k, psum (twice z n) (n + k) = psum z n + psum z k
  | 0 => by rw [Nat.add_zero, psum_twice_lo z n n (Nat.le_refl _)]; simp [psum]
  | k + 1 => by
    rw [← Nat.add_assoc]
    simp only [psum]
    rw [psum_twice_hi z n k]
    have : twice z n (n + k) = z k := by
      unfold twice
      rw [if_neg (by omega), Nat.add_sub_cancel_left]
    rw [this]
    omega

theorem psum_twice (z : Nat → Int) (n : Nat) : psum (twice z n) (2 * n) = 2 * psum z n := by
  rw [Nat.two_mul, psum_twice_hi]; omega

theorem psum_lower (z : Nat → Int) (a : Int) : ∀ k, (∀ j, j < k → a ≤ z j) → a * (k : Int) ≤ psum z k
  | 0, _ => by simp [psum]
  | k + 1, h => by
    have h1 := psum_lower z a k (fun j hj => h j (by omega))
    have h2 := h k (by omega)
    simp only [psum]
    rw [Int.natCast_add, Int.mul_add]
    omega

theorem psum_upper (z : Nat → Int) (a : Int) : ∀ k, (∀ j, j < k → z j ≤ a) → psum z k ≤ a * (k : Int)
  | 0, _ => by simp [psum]
  | k + 1, h => by
    have h1 := psum_upper z a k (fun j hj => h j (by omega))
    have h2 := h k (by omega)
    simp only [psum]
    rw [Int.natCast_add, Int.mul_add]
    omega

theorem first_only (z : Nat → Int) (j : Nat) (h : j < 1) : z 0 ≤ z j ∧ z j ≤ z 0 := by
  have : j = 0 := by omega
  subst this
  omega

theorem bounds_step (z : Nat → Int) (q : Nat) {a b a' b' : Int} (h : ∀ j, j < q → a ≤ z j ∧ z j ≤ b) (h1 : a' ≤ a) (h2 : b ≤ b') (h3 : a' ≤ z q) (h4 : z q ≤ b') : ∀ j, j < q + 1 → a' ≤ z j ∧ z j ≤ b' := by
  intro j hj
  by_cases e : j = q
  · subst e; omega
  · have := h j (by omega); omega

theorem order_lss (a b : Int) (ha : a.natAbs < 9007199254740992) (hb : b.natAbs < 9007199254740992) : (Ieee.double.order (fi a) (fi b) == some .lt) = decide (a < b) := by
  rw [Fl.order_fi a b ha hb, Bool.eq_iff_iff]
  simp [Int.compare_eq_lt]

theorem order_gtr (a b : Int) (ha : a.natAbs < 9007199254740992) (hb : b.natAbs < 9007199254740992) : (Ieee.double.order (fi a) (fi b) == some .gt) = decide (b < a) := by
  rw [Fl.order_fi a b ha hb, Bool.eq_iff_iff]
  simp [Int.compare_eq_gt]

set_option maxHeartbeats 400000 in
theorem bytes_any (a : Option Addr) (n c : Nat) (w : World) (hn : n ≤ 1048576) :
    Calls Uaeg.prog 17 #[.slice a n c] w fun e w' => e = .returned (.bool true) ∧ w' = w := by
  go_enter Uaeg.func17, Uaeg.ntmps17
  go_wp2
  go_ret
  exact ⟨rfl, rfl⟩

set_option maxHeartbeats 400000 in
theorem bytes_no (a : Option Addr) (n c : Nat) (w : World) (hm : n ≤ maxLen) (hn : 1048576 < n) :
    Calls Uaeg.prog 17 #[.slice a n c] w fun e w' => e = .returned (.bool false) ∧ w' = w := by
  unfold maxLen at hm
  go_enter Uaeg.func17, Uaeg.ntmps17
  go_wp2
  go_ret
  exact ⟨rfl, rfl⟩

set_option maxHeartbeats 400000 in
theorem walk_long (a : Option Addr) (n c : Nat) (w : World) (hm : n ≤ maxLen) (hn : 32768 < n) :
    Calls Uaeg.prog 6 #[.slice a n c] w fun e w' => e = .returned (.bool true) ∧ Below w.heap.size w w' := by
  have hm' := hm
  unfold maxLen at hm'
  by_cases h : n ≤ 1048576
  · go_enter Uaeg.func6, Uaeg.ntmps6
    go_wp2_with fail
    refine (bytes_any a n c _ h).mono ?_
    rintro e w ⟨rfl, rfl⟩
    go_wp2
    go_ret
    exact ⟨rfl, Below.refl _ _⟩
  · have h' : 1048576 < n := by omega
    go_enter Uaeg.func6, Uaeg.ntmps6
    go_wp2_with fail
    refine (bytes_no a n c _ hm h').mono ?_
    rintro e w ⟨rfl, rfl⟩
    go_wp2
    go_ret
    exact ⟨rfl, Below.refl _ _⟩

set_option maxHeartbeats 400000 in
theorem walk_zero (a : Option Addr) (c : Nat) (w : World) :
    Calls Uaeg.prog 6 #[.slice a 0 c] w fun e w' => e = .returned (.bool true) ∧ Below w.heap.size w w' := by
  have hmk : ∀ w, (Instr.makeSlice 26 (.int .i64 0) (.int .i64 0)).run Uaeg.prog w = .ok (.slice (some ⟨w.heap.size, 0, none⟩) 0 0) (w.alloc (.cells (madeCells #[.float .f64 0] 0) 27)) := run_make_row' (P := Uaeg.prog) 26 27 (.float .f64 0) 8 Uaeg.underlying26 info27 rfl .i64 .i64 0 (by omega) (by omega)
  go_enter Uaeg.func6, Uaeg.ntmps6
  go_wp2_with fail
  refine (bytes_any a 0 c _ (by omega)).mono ?_
  rintro e w ⟨rfl, rfl⟩
  go_wp2
  clear hmk
  go_loopw [6] (fun i wr => i = .int .i64 0 ∧ Below w.heap.size w wr) (fun i _ => 0)
  case atStart => exact ⟨rfl, ((Below.refl _ _).alloc (Nat.le_refl _) _).alloc (by simp) _⟩
  case round =>
    obtain ⟨rfl, hB⟩ := hrel
    go_wp2_with fail
    refine (ZZavg_none _ _).mono ?_
    rintro e w1 ⟨t, rfl, hb⟩
    go_wp2_with fail
    refine (ZZavg_none _ _).mono ?_
    rintro e w2 ⟨t2, rfl, hb2⟩
    have ho : (FloatKind.f64.format.order (nanOf t) (nanOf t) != some .eq) = true := nan_neq t
    have ho2 : (FloatKind.f64.format.order (nanOf t2) (nanOf t2) != some .eq) = true := nan_neq t2
    go_wp2
    go_ret
    exact ⟨rfl, (hB.trans (hb.mono hB.size)).trans (hb2.mono (Nat.le_trans hB.size hb.size))⟩

set_option maxHeartbeats 1000000 in
theorem walk_some (x : Addr) (n c : Nat) (z : Nat → Int) (w : World) (hn0 : 0 < n) (hn : n ≤ 32768) (hz : ∀ i, i < n → -2147483648 ≤ z i ∧ z i ≤ 2147483647)
    (hx : ∀ i, i < n → w.cell? (x.add i) = some (.int .i32 (z i))) :
    Calls Uaeg.prog 6 #[.slice (some x) n c] w fun e w' => e = .returned (.bool true) ∧ Below w.heap.size w w' := by
  have hmk := run_make_row' (P := Uaeg.prog) 26 27 (.float .f64 0) 8 Uaeg.underlying26 info27 rfl .i64 .i64 n (by omega) (by omega)
  have hmk2 : ∀ w, (Instr.makeSlice 26 (.int .i64 (2 * (n : Int))) (.int .i64 (2 * (n : Int)))).run Uaeg.prog w = .ok (.slice (some ⟨w.heap.size, 0, none⟩) (2 * n) (2 * n)) (w.alloc (.cells (madeCells #[.float .f64 0] (2 * n)) 27)) := by
    have := run_make_row' (P := Uaeg.prog) 26 27 (.float .f64 0) 8 Uaeg.underlying26 info27 rfl .i64 .i64 (2 * n) (by omega) (by omega)
    rw [Int.natCast_mul] at this
    exact this
  have hps := psum_bound z n hz
  have HZ : Hid (∀ i, i < n → -2147483648 ≤ z i ∧ z i ≤ 2147483647) := hz
  have HX : Hid (∀ i, i < n → w.cell? (x.add i) = some (.int .i32 (z i))) := hx
  have hxb : x.block < w.heap.size := by
    have := hx 0 hn0
    exact World.block_lt_of_cell? _ _ this
  have hadd : Hid (∀ k, k < n → Ieee.double.add (fi (psum z k)) (fi (z k)) = some (fi (psum z (k + 1)))) := by
    intro k hk
    have h1 := hps k (by omega)
    have h2 := hz k hk
    exact Fl.add_fi _ _ (by omega) (by omega)
  have hz2 : ∀ i, i < 2 * n → -2147483648 ≤ twice z n i ∧ twice z n i ≤ 2147483647 := by
    intro i hi
    unfold twice
    by_cases h : i < n
    · rw [if_pos h]; exact hz i h
    · rw [if_neg h]; exact hz (i - n) (by omega)
  have hps2 := psum_bound (twice z n) (2 * n) hz2
  have hadd2 : Hid (∀ k, k < 2 * n → Ieee.double.add (fi (psum (twice z n) k)) (fi (twice z n k)) = some (fi (psum (twice z n) (k + 1)))) := by
    intro k hk
    have h1 := hps2 k (by omega)
    have h2 := hz2 k hk
    exact Fl.add_fi _ _ (by omega) (by omega)
  have hSb := hps n (Nat.le_refl _)
  obtain ⟨r, hdiv, hrr⟩ := Fl.div_fi (psum z n) n (by omega) (by omega) (by omega)
  have HD : Hid (Ieee.double.div (fi (psum z n)) (fi n) = some r) := hdiv
  have HD2 : Hid (Ieee.double.div (fi (psum (twice z n) (2 * n))) (fi ((2 * n : Nat) : Int)) = some r) := by
    show Ieee.double.div (fi (psum (twice z n) (2 * n))) (fi ((2 * n : Nat) : Int)) = some r
    rw [psum_twice, Int.natCast_mul]
    exact (Fl.div_double (psum z n) n (by omega) (by omega) (by omega)).trans hdiv
  have hlow : Hid (∀ a : Int, (∀ j, j < n → a ≤ z j) → Fl.LE (Ieee.double.order (fi a) r)) := fun a ha =>
    Fl.div_lower (psum z n) a n r (by omega) (by omega) (by omega) hdiv (psum_lower z a n ha)
  have hupp : Hid (∀ a : Int, (∀ j, j < n → z j ≤ a) → Fl.LE (Ieee.double.order r (fi a))) := fun a ha =>
    Fl.div_upper (psum z n) a n r (by omega) (by omega) (by omega) hdiv (psum_upper z a n ha)
  have ho : FloatKind.f64.format.order r r = some .eq := hrr
  clear hps hz hx hdiv hrr hps2 hz2 hSb
  go_enter Uaeg.func6, Uaeg.ntmps6
  go_wp2_with fail
  refine (bytes_any (some x) n c _ (by omega)).mono ?_
  rintro e w ⟨rfl, rfl⟩
  go_wp2
  clear hmk hmk2
  go_loopw [6] (fun i wr => ∃ k : Nat, k ≤ n ∧ i = .int .i64 k ∧ Below w.heap.size w wr ∧ wr.heap.size = w.heap.size + 2 ∧ wr.rowIs w.heap.size 27 n (fls z k) ∧ wr.rowIs (w.heap.size + 1) 27 (2 * n) (dds z n k)) (fun i _ => n - (intOf i).toNat)
  case atStart =>
    refine ⟨0, Nat.zero_le _, rfl, ((Below.refl _ _).alloc (Nat.le_refl _) _).alloc (by simp) _, by simp, ((World.rowIs_made w _ n 27).alloc _).congr (fun j _ => by simp [fls]), ?_⟩
    have h := World.rowIs_made (w.alloc (.cells (madeCells #[.float .f64 0] n) 27)) (.float .f64 0) (2 * n) 27
    rw [World.size_alloc] at h
    exact h.congr (fun j _ => by simp [dds]; omega)
  case round =>
    obtain ⟨k, hk, rfl, hB, hsz, hR, hR2⟩ := hrel
    by_cases hlt : k < n
    · have hc : wr.cell? (x.add k) = some (.int .i32 (z k)) := by
        rw [hB.cell (p := x.add k) (by unfold Addr.add; split <;> exact hxb)]; exact HX.out k hlt
      have h1 := hR.cell hlt
      have h2 := hR.frozen k
      have hne : ∀ b i, w.heap.size ≤ b → (⟨b, i, none⟩ : Addr) ≠ x.add k := fun b i hb e => by
        have := congrArg Addr.block e; unfold Addr.add at this; split at this <;> simp at this <;> omega
      have hcs : ∀ (wx : World) b i v, w.heap.size ≤ b → wx.cell? (x.add k) = some (.int .i32 (z k)) → (wx.setCell ⟨b, i, none⟩ v).cell? (x.add k) = some (.int .i32 (z k)) := fun wx b i v hb h => by
        rw [World.cell?_setCell_other _ _ _ _ (hne b i hb)]; exact h
      have c1 := hcs wr w.heap.size k (.float .f64 (fi (z k))) (Nat.le_refl _) hc
      have R1 := hR2.setOther (a := ⟨w.heap.size, k, none⟩) (by show w.heap.size + 1 ≠ w.heap.size; omega) (.float .f64 (fi (z k)))
      have d1 := R1.cell (i := k) (by omega)
      have d2 := R1.frozen k
      have c2 := hcs _ (w.heap.size + 1) k (.float .f64 (fi (z k))) (by omega) c1
      have R2 := R1.set k (.float .f64 (fi (z k)))
      have d3 := R2.cell (i := n + k) (by omega)
      have d4 := R2.frozen (n + k)
      have R3 := R2.set (n + k) (.float .f64 (fi (z k)))
      clear hcs hne
      go_wp2
      go_roundw
      case rel =>
        refine ⟨k + 1, by omega, by go_num, ((hB.setCell (Nat.le_refl _) _).setCell (by show w.heap.size ≤ w.heap.size + 1; omega) _).setCell (by show w.heap.size ≤ w.heap.size + 1; omega) _, by simp [hsz], ?_, R3.congr (fun j _ => dds_step z n k j hlt)⟩
        exact (((hR.set k _).congr (fun j _ => fls_step z k j)).setOther (by show w.heap.size ≠ w.heap.size + 1; omega) _).setOther (by show w.heap.size ≠ w.heap.size + 1; omega) _
      case measure => simp [intOf]; omega
    · have e : k = n := by omega
      subst e
      have hfs : ∀ i, i < k → wr.cell? ⟨w.heap.size, i, none⟩ = some (.float .f64 (fi (z i))) := fun i hi => by
        rw [hR.cell hi]; simp [fls, hi]
      have hds : ∀ i, i < 2 * k → wr.cell? ⟨w.heap.size + 1, i, none⟩ = some (.float .f64 (fi (twice z k i))) := fun i hi => by
        have h' : i < k ∨ (k ≤ i ∧ i < k + k) := by omega
        rw [hR2.cell hi]; unfold dds twice; rw [if_pos h']
      have HF : Hid (∀ i, i < k → wr.cell? ⟨w.heap.size, i, none⟩ = some (.float .f64 (fi (z i)))) := hfs
      have HG : Hid (∀ i, i < 2 * k → wr.cell? ⟨w.heap.size + 1, i, none⟩ = some (.float .f64 (fi (twice z k i)))) := hds
      clear hfs hds hR hR2
      go_wp2_with fail
      refine (ZZavg_any ⟨w.heap.size, 0, none⟩ k z _ r (by omega) (by show w.heap.size < wr.heap.size; omega) ?_ hadd HD.out).mono ?_
      · intro i hi
        rw [addr_add]; exact HF.out i hi
      · rintro e w1 ⟨rfl, hb⟩
        have hw1 := hb.size
        go_wp2_with fail
        refine (ZZavg_any ⟨w.heap.size + 1, 0, none⟩ (2 * k) (twice z k) _ r (by omega) (by show w.heap.size + 1 < w1.heap.size; omega) ?_ hadd2 HD2.out).mono ?_
        · intro i hi
          rw [addr_add, hb.cell (p := ⟨w.heap.size + 1, i, none⟩) (by show w.heap.size + 1 < wr.heap.size; omega)]
          exact HG.out i hi
        · rintro e w2 ⟨rfl, hb2⟩
          have HC : Hid (∀ i, i < k → w2.cell? ⟨w.heap.size, i, none⟩ = some (.float .f64 (fi (z i)))) := fun i hi => by
            rw [hb2.cell (p := ⟨w.heap.size, i, none⟩) (by show w.heap.size < w1.heap.size; omega), hb.cell (p := ⟨w.heap.size, i, none⟩) (by show w.heap.size < wr.heap.size; omega)]
            exact HF.out i hi
          have HB : Hid (Below w.heap.size w w2) := (hB.trans (hb.mono hB.size)).trans (hb2.mono (Nat.le_trans hB.size hb.size))
          clear hB hb hb2 HF HG hsz hw1 hadd hadd2 HD HD2 HX
          have hc0 := HC.out 0 hn0
          go_wp2
          go_loop [9, 10, 11] (fun mn mx i => ∃ q : Nat, ∃ a b : Int, 1 ≤ q ∧ q ≤ k ∧ i = .int .i64 q ∧ mn = .float .f64 (fi a) ∧ mx = .float .f64 (fi b) ∧ (-2147483648 ≤ a ∧ a ≤ 2147483647) ∧ (-2147483648 ≤ b ∧ b ≤ 2147483647) ∧ ∀ j, j < q → a ≤ z j ∧ z j ≤ b) (fun _ _ i => k - (intOf i).toNat)
          case atStart =>
            exact ⟨1, z 0, z 0, Nat.le_refl _, by omega, rfl, rfl, rfl, HZ.out 0 hn0, HZ.out 0 hn0, first_only z⟩
          case round =>
            obtain ⟨q, a, b, hq1, hq, rfl, rfl, rfl, ha, hb, hab⟩ := hrel
            have HAB : Hid (∀ j, j < q → a ≤ z j ∧ z j ≤ b) := hab
            clear hab hc0
            by_cases hlt : q < k
            · have hcq := HC.out q hlt
              have hzq := HZ.out q hlt
              have o1 : (FloatKind.f64.format.order (fi (z q)) (fi a) == some .lt) = decide (z q < a) := order_lss _ _ (by omega) (by omega)
              have o2 : (FloatKind.f64.format.order (fi (z q)) (fi b) == some .gt) = decide (b < z q) := order_gtr _ _ (by omega) (by omega)
              by_cases h1 : z q < a <;> by_cases h2 : b < z q
              all_goals
                simp only [h1, h2, decide_true, decide_false] at o1 o2
                go_wp2
                go_round
                case rel =>
                  first
                  | exact ⟨q + 1, z q, z q, by omega, by omega, by go_num, rfl, rfl, by omega, by omega, bounds_step z q HAB.out (by omega) (by omega) (by omega) (by omega)⟩
                  | exact ⟨q + 1, z q, b, by omega, by omega, by go_num, rfl, rfl, by omega, by omega, bounds_step z q HAB.out (by omega) (by omega) (by omega) (by omega)⟩
                  | exact ⟨q + 1, a, z q, by omega, by omega, by go_num, rfl, rfl, by omega, by omega, bounds_step z q HAB.out (by omega) (by omega) (by omega) (by omega)⟩
                  | exact ⟨q + 1, a, b, by omega, by omega, by go_num, rfl, rfl, by omega, by omega, bounds_step z q HAB.out (by omega) (by omega) (by omega) (by omega)⟩
                case measure => simp [intOf]; omega
            · have e : q = k := by omega
              subst e
              have l1 := hlow.out a (fun j hj => (HAB.out j hj).1)
              have l2 := hupp.out b (fun j hj => (HAB.out j hj).2)
              have L1 : FloatKind.f64.format.order (fi a) r = some .lt ∨ FloatKind.f64.format.order (fi a) r = some .eq := l1
              have L2 : FloatKind.f64.format.order r (fi b) = some .lt ∨ FloatKind.f64.format.order r (fi b) = some .eq := l2
              clear l1 l2 ha hb
              rcases L1 with L1 | L1 <;> rcases L2 with L2 | L2
              all_goals
                go_wp2
                go_ret
                exact ⟨rfl, HB.out⟩
end Go.Proofs.Youaew.fnAvgOfDoubledListAndBounds
