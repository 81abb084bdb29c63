import Derived.Test.YouaewRows
import Derived.Test.YouaewFloat
import Derived.Test.YouaewAvg
import Derived.WalkKit
import Derived.WalkSpells
import Derived.WalkLawsBesides
import Derived.Deep.OwnRows
namespace Go.Proofs.Youaew.fnAvgOfIntegersIsExactMean
open Go.RowKit
open Fl (fi)
set_option linter.unusedVariables false

/-! ### STEP 1: THE WALK -/
/-- The row of floats, k of them laid. -/
def fls (z : Nat → Int) (k : Nat) : Nat → Value := fun j => if j < k then .float .f64 (fi (z j)) else .float .f64 0

theorem fls_step (z : Nat → Int) (k j : Nat) : (if j = k then .float .f64 (fi (z k)) else fls z k j) = fls z (k + 1) j := by
  unfold fls
  by_cases e : j = k
  · subst e; simp
  · rw [if_neg e]
    by_cases hlt : j < k
    · rw [if_pos hlt, if_pos (by omega)]
    · rw [if_neg hlt, if_neg (by omega)]

theorem run_store_float {P : Program} (w : World) (a : Addr) (m : Mode) (k : FloatKind) (b : Nat) : (store a (.float k b) m).run P w = stored P w a (.float k b) m := run_store P w a _ m rfl
attribute [local go_sem] floatOfInt_fi run_store_float

theorem psum_bound (z : Nat → Int) (n : Nat) (hz : ∀ i, i < n → -2147483648 ≤ z i ∧ z i ≤ 2147483647) : ∀ k, k ≤ n → -(2147483648 * (k : Int)) ≤ psum z k ∧ psum z k ≤ 2147483648 * (k : Int)
  | 0, _ => by simp [psum]
  | k + 1, h => by
    have h1 := psum_bound z n hz k (by omega)
    have h2 := hz k (by omega)
    simp only [psum]
    omega

set_option maxHeartbeats 400000 in
theorem bytes_any (a : Option Addr) (n c : Nat) (w : World) (hn : n ≤ 1048576) :
    Calls Uaeg.prog 15 #[.slice a n c] w fun e w' => e = .returned (.bool true) ∧ w' = w := by
  go_enter Uaeg.func15, Uaeg.ntmps15
  go_wp2
  go_ret
  exact ⟨rfl, rfl⟩

set_option maxHeartbeats 400000 in
theorem bytes_no (a : Option Addr) (n c : Nat) (w : World) (hm : n ≤ maxLen) (hn : 1048576 < n) :
    Calls Uaeg.prog 15 #[.slice a n c] w fun e w' => e = .returned (.bool false) ∧ w' = w := by
  unfold maxLen at hm
  go_enter Uaeg.func15, Uaeg.ntmps15
  go_wp2
  go_ret
  exact ⟨rfl, rfl⟩

set_option maxHeartbeats 400000 in
theorem walk_long (a : Option Addr) (n c : Nat) (w : World) (hm : n ≤ maxLen) (hn : 65536 < n) :
    Calls Uaeg.prog 5 #[.slice a n c] w fun e w' => e = .returned (.bool true) ∧ Below w.heap.size w w' := by
  have hm' := hm
  unfold maxLen at hm'
  by_cases h : n ≤ 1048576
  · go_enter Uaeg.func5, Uaeg.ntmps5
    go_wp2_with fail
    refine (bytes_any a n c _ h).mono ?_
    rintro e w ⟨rfl, rfl⟩
    go_wp2
    go_ret
    exact ⟨rfl, Below.refl _ _⟩
  · have h' : 1048576 < n := by omega
    go_enter Uaeg.func5, Uaeg.ntmps5
    go_wp2_with fail
    refine (bytes_no a n c _ hm h').mono ?_
    rintro e w ⟨rfl, rfl⟩
    go_wp2
    go_ret
    exact ⟨rfl, Below.refl _ _⟩

theorem nan_neq (t : Nat) : (Ieee.double.order (nanOf t) (nanOf t) != some .eq) = true := by
  have h := nanOf_nan t
  unfold Ieee.Format.order
  revert h
  cases Ieee.double.read (nanOf t) <;> intro h
  · cases h
  · cases h
  · rfl

set_option maxHeartbeats 400000 in
theorem walk_zero (a : Option Addr) (c : Nat) (w : World) :
    Calls Uaeg.prog 5 #[.slice a 0 c] w fun e w' => e = .returned (.bool true) ∧ Below w.heap.size w w' := by
  have hmk : ∀ w, (Instr.makeSlice 26 (.int .i64 0) (.int .i64 0)).run Uaeg.prog w = .ok (.slice (some ⟨w.heap.size, 0, none⟩) 0 0) (w.alloc (.cells (madeCells #[.float .f64 0] 0) 27)) := run_make_row' (P := Uaeg.prog) 26 27 (.float .f64 0) 8 Uaeg.underlying26 info27 rfl .i64 .i64 0 (by omega) (by omega)
  go_enter Uaeg.func5, Uaeg.ntmps5
  go_wp2_with fail
  refine (bytes_any a 0 c _ (by omega)).mono ?_
  rintro e w ⟨rfl, rfl⟩
  go_wp2
  clear hmk
  go_loopw [5, 6] (fun s i wr => i = .int .i64 0 ∧ Below w.heap.size w wr) (fun _ i _ => 0)
  case atStart => exact ⟨rfl, (Below.refl _ _).alloc (Nat.le_refl _) _⟩
  case round =>
    obtain ⟨rfl, hB⟩ := hrel
    go_wp2_with fail
    refine (ZZavg_none _ _).mono ?_
    rintro e w1 ⟨t, rfl, hb⟩
    have ho : (FloatKind.f64.format.order (nanOf t) (nanOf t) != some .eq) = true := nan_neq t
    go_wp2
    go_ret
    exact ⟨rfl, hB.trans (hb.mono hB.size)⟩


set_option maxHeartbeats 1000000 in
theorem walk_some (x : Addr) (n c : Nat) (z : Nat → Int) (w : World) (hn0 : 0 < n) (hn : n ≤ 65536) (hz : ∀ i, i < n → -2147483648 ≤ z i ∧ z i ≤ 2147483647)
    (hx : ∀ i, i < n → w.cell? (x.add i) = some (.int .i32 (z i))) :
    Calls Uaeg.prog 5 #[.slice (some x) n c] w fun e w' => e = .returned (.bool true) ∧ Below w.heap.size w w' := by
  have hmk := run_make_row' (P := Uaeg.prog) 26 27 (.float .f64 0) 8 Uaeg.underlying26 info27 rfl .i64 .i64 n (by omega) (by omega)
  have hps := psum_bound z n hz
  have HP : Hid (∀ k, k ≤ n → -(2147483648 * (k : Int)) ≤ psum z k ∧ psum z k ≤ 2147483648 * (k : Int)) := hps
  have HZ : Hid (∀ i, i < n → -2147483648 ≤ z i ∧ z i ≤ 2147483647) := hz
  have HX : Hid (∀ i, i < n → w.cell? (x.add i) = some (.int .i32 (z i))) := hx
  have hxb : x.block < w.heap.size := by
    have := hx 0 hn0
    exact World.block_lt_of_cell? _ _ this
  have hadd : Hid (∀ k, k < n → Ieee.double.add (fi (psum z k)) (fi (z k)) = some (fi (psum z (k + 1)))) := by
    intro k hk
    have h1 := hps k (by omega)
    have h2 := hz k hk
    exact Fl.add_fi _ _ (by omega) (by omega)
  obtain ⟨r, hdiv, hrr⟩ := Fl.div_fi (psum z n) n (by have := hps n (Nat.le_refl _); omega) (by omega) (by omega)
  have HD : Hid (Ieee.double.div (fi (psum z n)) (fi n) = some r) := hdiv
  have ho : (FloatKind.f64.format.order r r == some .eq) = true := by
    show (Ieee.double.order r r == some .eq) = true
    rw [hrr]; rfl
  have hq : ∀ w, (binOp .quo 27 (.float .f64 (fi (psum z n))) (.float .f64 (fi n))).run Uaeg.prog w = .ok (.float .f64 r) w := fun w => run_float_arith w .quo 27 .f64 _ _ _ hdiv
  clear hps hz hx hdiv hrr
  go_enter Uaeg.func5, Uaeg.ntmps5
  go_wp2_with fail
  refine (bytes_any (some x) n c _ (by omega)).mono ?_
  rintro e w ⟨rfl, rfl⟩
  go_wp2
  clear hmk
  go_loopw [5, 6] (fun s i wr => ∃ k : Nat, k ≤ n ∧ i = .int .i64 k ∧ s = .int .i64 (psum z k) ∧ Below w.heap.size w wr ∧ w.heap.size < wr.heap.size ∧ wr.rowIs w.heap.size 27 n (fls z k)) (fun _ i _ => n - (intOf i).toNat)
  case atStart => exact ⟨0, Nat.zero_le _, rfl, rfl, (Below.refl _ _).alloc (Nat.le_refl _) _, by simp, (World.rowIs_made w _ n 27).congr (fun j _ => by simp [fls])⟩
  case round =>
    obtain ⟨k, hk, rfl, rfl, hB, hsz, hR⟩ := hrel
    by_cases hlt : k < n
    · have hc : wr.cell? (x.add k) = some (.int .i32 (z k)) := by
        rw [hB.cell (p := x.add k) (by unfold Addr.add; split <;> exact hxb)]; exact HX.out k hlt
      have h1 := hR.cell hlt
      have h2 := hR.frozen k
      have hc' : ∀ v, (wr.setCell ⟨w.heap.size, k, none⟩ v).cell? (x.add k) = some (.int .i32 (z k)) := fun v => by
        rw [World.cell?_setCell_other _ _ _ _ (fun e => by have := congrArg Addr.block e; unfold Addr.add at this; split at this <;> simp at this <;> omega)]
        exact hc
      have b1 := HP.out k hk
      have b2 := HZ.out k hlt
      obtain ⟨b1, b1'⟩ := b1
      obtain ⟨b2, b2'⟩ := b2
      go_wp2
      go_roundw
      case rel => exact ⟨k + 1, by omega, by go_num, rfl, hB.setCell (Nat.le_refl _) _, by simp [hsz], (hR.set k _).congr (fun j _ => fls_step z k j)⟩
      case measure => simp [intOf]; omega
    · have e : k = n := by omega
      subst e
      go_wp2_with fail
      refine (ZZavg_any ⟨w.heap.size, 0, none⟩ k z _ r (by omega) hsz ?_ hadd HD.out).mono ?_
      · intro i hi
        rw [addr_add, hR.cell hi]
        simp [fls, hi]
      · rintro e w1 ⟨rfl, hb⟩
        go_wp2
        go_ret
        exact ⟨rfl, hB.trans (hb.mono hB.size)⟩
end Go.Proofs.Youaew.fnAvgOfIntegersIsExactMean
