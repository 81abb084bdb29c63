/-
  What ZZavg and jpfAvg do to the world (functions 16 and 26), and the float laws that the walk wants.
-/
import Derived.Test.YouaewRows
import Derived.Test.YouaewFloat
import Derived.WalkKit
import Derived.WalkSpells
import Derived.WalkLawsBesides
import Derived.Deep.OwnRows
namespace Go.Proofs.Youaew
open Go.RowKit
open Fl (fi)
theorem as27 (v : Value) (w : World) : (Instr.typeAssert (.iface 27 v) 20 27 false).run Uaeg.prog w = .ok v w := by kernel_rfl
theorem as9 (v : Value) (w : World) : (Instr.typeAssert (.iface 9 v) 20 9 false).run Uaeg.prog w = .ok v w := by kernel_rfl
theorem as4 (v : Value) (w : World) : (Instr.typeAssert (.iface 4 v) 20 4 false).run Uaeg.prog w = .ok v w := by kernel_rfl
theorem as40 (v : Value) (w : World) : (Instr.typeAssert (.iface 40 v) 20 40 false).run Uaeg.prog w = .ok v w := by kernel_rfl
attribute [local go_sem] as27 as9 as4 as40
theorem floatOfInt_fi (n : Int) : floatOfInt .f64 n = fi n := rfl
theorem fi_zero : fi 0 = 0 := by decide +kernel
attribute [local go_sem] floatOfInt_fi

/-- The bits that the tape gives of a NaN. -/
def nanOf (t : Nat) : Nat := (Question.nanBits .f64 0 0).cut t

theorem run_quo_none {P : Program} (t : TypeId) (x y : Nat) (w : World) (h : Ieee.double.div x y = none) :
    (binOp .quo t (.float .f64 x) (.float .f64 y)).run P w = .ok (.float .f64 (nanOf (w.tape w.drawn (.nanBits .f64 x y)))) w.drew := by
  have h' : FloatKind.f64.format.div x y = none := h
  simp [binOp, Op.floatArith, h', nanOf, Question.forced, Question.cut]

theorem nanOf_nan (t : Nat) : (Ieee.double.read (nanOf t)).isNaN = true := by
  have e : nanOf t = Ieee.double.word (t % 2 == 1) (Ieee.double.infRung + 1 + (t / 2) % 4503599627370495) := by
    unfold nanOf Question.cut Ieee.Format.word
    rw [Fl.d_sign, Fl.d_inf]
    have : t % 2 = 0 ∨ t % 2 = 1 := by omega
    rcases this with h | h <;> simp [h] <;> omega
  rw [e, Fl.read_word _ _ (by rw [Fl.d_inf, Fl.d_sign]; omega)]
  unfold Fl.rungDatum
  rw [Fl.d_inf, Fl.d_binade, if_neg (by omega), if_neg (by omega), if_neg (by omega)]
  rfl

/-- The sum of the first k numbers. -/
def psum (z : Nat → Int) : Nat → Int
  | 0 => 0
  | k + 1 => psum z k + z k

set_option maxHeartbeats 400000 in
theorem jpfAvg_any (x y : Addr) (n : Nat) (z : Nat → Int) (w : World) (r : Nat) (hn : n ≤ 131072) 
    (hx : w.cell? x = some (.iface 40 (.slice (some y) n n)))
    (hy : ∀ i, i < n → w.cell? (y.add i) = some (.iface 27 (.float .f64 (fi (z i)))))
    (hadd : ∀ k, k < n → Ieee.double.add (fi (psum z k)) (fi (z k)) = some (fi (psum z (k + 1))))
    (hdiv : Ieee.double.div (fi (psum z n)) (fi n) = some r) :
    Calls Uaeg.prog 26 #[.slice (some x) 1 1] w fun e w' => e = .returned (.tuple #[.iface 27 (.float .f64 r), .nilIface]) ∧ w' = w := by
  have hq : ∀ w, (binOp .quo 27 (.float .f64 (fi (psum z n))) (.float .f64 (fi n))).run Uaeg.prog w = .ok (.float .f64 r) w := fun w => run_float_arith w .quo 27 .f64 _ _ _ hdiv
  have HA : Hid (∀ k, k < n → Ieee.double.add (fi (psum z k)) (fi (z k)) = some (fi (psum z (k + 1)))) := hadd
  have HY : Hid (∀ i, i < n → w.cell? (y.add i) = some (.iface 27 (.float .f64 (fi (z i))))) := hy
  clear hadd hdiv hy
  go_enter Uaeg.func26, Uaeg.ntmps26
  go_wp2
  go_loop [6, 18] (fun s i => ∃ k : Nat, k ≤ n ∧ i = .int .i64 k ∧ s = .float .f64 (fi (psum z k))) (fun _ i => n - (intOf i).toNat)
  case atStart => exact ⟨0, Nat.zero_le _, rfl, by show _ = Value.float .f64 (fi 0); rw [fi_zero]⟩
  case round =>
    obtain ⟨k, hk, rfl, rfl⟩ := hrel
    by_cases hlt : k < n
    · have ha := run_float_arith (P := Uaeg.prog) w .add 27 .f64 _ _ _ (HA.out k hlt)
      have hc := HY.out k hlt
      go_wp2
      go_round
      case rel => exact ⟨k + 1, by omega, by go_num, rfl⟩
      case measure => simp [intOf]; omega
    · have e : k = n := by omega
      subst e
      go_wp2
      go_ret2
      exact ⟨rfl, rfl⟩

set_option maxHeartbeats 400000 in
theorem jpfAvg_none (x y : Addr) (w : World)
    (hx : w.cell? x = some (.iface 40 (.slice (some y) 0 0))) :
    Calls Uaeg.prog 26 #[.slice (some x) 1 1] w fun e w' => ∃ t, e = .returned (.tuple #[.iface 27 (.float .f64 (nanOf t)), .nilIface]) ∧ w' = w.drew := by
  have hq : ∀ w, (binOp .quo 27 (.float .f64 0) (.float .f64 (fi 0))).run Uaeg.prog w = .ok (.float .f64 (nanOf (w.tape w.drawn (.nanBits .f64 0 (fi 0))))) w.drew := fun w => run_quo_none 27 _ _ w (by have := Fl.div_zero; rw [fi_zero] at this ⊢; exact this)
  go_enter Uaeg.func26, Uaeg.ntmps26
  go_wp2
  go_loop [6, 18] (fun s i => i = .int .i64 0 ∧ s = .float .f64 0) (fun _ i => 0)
  case atStart => exact ⟨rfl, rfl⟩
  case round =>
    obtain ⟨rfl, rfl⟩ := hrel
    go_wp2
    go_ret2
    exact ⟨⟨_, rfl⟩, rfl⟩
theorem info20 : (Uaeg.prog.info? 20).map (fun i => (i.zero, i.size, i.bytes)) = some (some .nilIface, 1, 16) := by kernel_rfl
theorem info27 : (Uaeg.prog.info? 27).map (fun i => (i.zero, i.size, i.bytes)) = some (some (.float .f64 0), 1, 8) := by kernel_rfl

theorem addr_add (b i : Nat) : (⟨b, 0, none⟩ : Addr).add i = ⟨b, i, none⟩ := by
  unfold Addr.add
  by_cases h : i = 0
  · simp [h]
  · simp [h]

/-- The row of interfaces, k of them laid. -/
def ifs (z : Nat → Int) (k : Nat) : Nat → Value := fun j => if j < k then .iface 27 (.float .f64 (fi (z j))) else .nilIface

theorem ifs_step (z : Nat → Int) (k j : Nat) : (if j = k then .iface 27 (.float .f64 (fi (z k))) else ifs z k j) = ifs z (k + 1) j := by
  unfold ifs
  by_cases e : j = k
  · subst e; simp
  · rw [if_neg e]
    by_cases hlt : j < k
    · rw [if_pos hlt, if_pos (by omega)]
    · rw [if_neg hlt, if_neg (by omega)]

set_option maxHeartbeats 400000 in
theorem ZZavg_any (x : Addr) (n : Nat) (z : Nat → Int) (w : World) (r : Nat) (hn : n ≤ 131072) (hxb : x.block < w.heap.size)
    (hy : ∀ i, i < n → w.cell? (x.add i) = some (.float .f64 (fi (z i))))
    (hadd : ∀ k, k < n → Ieee.double.add (fi (psum z k)) (fi (z k)) = some (fi (psum z (k + 1))))
    (hdiv : Ieee.double.div (fi (psum z n)) (fi n) = some r) :
    Calls Uaeg.prog 16 #[.slice (some x) n n] w fun e w' => e = .returned (.float .f64 r) ∧ Below w.heap.size w w' := by
  have HA : Hid (∀ k, k < n → Ieee.double.add (fi (psum z k)) (fi (z k)) = some (fi (psum z (k + 1)))) := hadd
  have HD : Hid (Ieee.double.div (fi (psum z n)) (fi n) = some r) := hdiv
  have HY : Hid (∀ i, i < n → w.cell? (x.add i) = some (.float .f64 (fi (z i)))) := hy
  clear hadd hdiv hy
  have hmk := run_make_row' (P := Uaeg.prog) 40 20 .nilIface 16 Uaeg.underlying40 info20 rfl .i64 .i64 n (by omega) (by omega)
  go_enter Uaeg.func16, Uaeg.ntmps16
  go_wp2
  clear hmk
  go_loopw [13] (fun i wr => ∃ k : Nat, k ≤ n ∧ i = .int .i64 k ∧ Below w.heap.size w wr ∧ wr.heap.size = w.heap.size + 1 ∧ wr.rowIs w.heap.size 20 n (ifs z k)) (fun i _ => n - (intOf i).toNat)
  case atStart => exact ⟨0, Nat.zero_le _, rfl, (Below.refl _ _).alloc (Nat.le_refl _) _, by simp, (World.rowIs_made w _ n 20).congr (fun j _ => by simp [ifs])⟩
  case round =>
    obtain ⟨k, hk, rfl, hB, hsz, hR⟩ := hrel
    by_cases hlt : k < n
    · have hc : wr.cell? (x.add k) = some (.float .f64 (fi (z k))) := by
        rw [hB.cell (p := x.add k) (by unfold Addr.add; split <;> exact hxb)]; exact HY.out k hlt
      have h1 := hR.cell hlt
      have h2 := hR.frozen k
      go_wp2
      go_roundw
      case rel => exact ⟨k + 1, by omega, by go_num, hB.setCell (Nat.le_refl _) _, by simp [hsz], (hR.set k _).congr (fun j _ => ifs_step z k j)⟩
      case measure => simp [intOf]; omega
    · have e : k = n := by omega
      subst e
      go_wp2_with fail
      refine (jpfAvg_any ⟨w.heap.size + 1, 0, none⟩ ⟨w.heap.size, 0, none⟩ k z _ r hn ?_ ?_ HA.out HD.out).mono ?_
      · rw [← hsz, World.cell?_alloc_new]; rfl
      · intro i hi
        rw [addr_add, (hR.alloc _).cell hi]
        simp [ifs, hi]
      · rintro e w' ⟨rfl, rfl⟩
        go_wp2
        go_ret
        exact ⟨rfl, hB.alloc (by omega) _⟩

set_option maxHeartbeats 400000 in
theorem ZZavg_none (x : Addr) (w : World) :
    Calls Uaeg.prog 16 #[.slice (some x) 0 0] w fun e w' => ∃ t, e = .returned (.float .f64 (nanOf t)) ∧ Below w.heap.size w w' := by
  have hmk : ∀ w, (Instr.makeSlice 40 (.int .i64 0) (.int .i64 0)).run Uaeg.prog w = .ok (.slice (some ⟨w.heap.size, 0, none⟩) 0 0) (w.alloc (.cells (madeCells #[.nilIface] 0) 20)) := run_make_row' (P := Uaeg.prog) 40 20 .nilIface 16 Uaeg.underlying40 info20 rfl .i64 .i64 0 (by omega) (by omega)
  go_enter Uaeg.func16, Uaeg.ntmps16
  go_wp2
  clear hmk
  go_loopw [13] (fun i wr => i = .int .i64 0 ∧ Below w.heap.size w wr ∧ wr.heap.size = w.heap.size + 1) (fun i _ => 0)
  case atStart => exact ⟨rfl, (Below.refl _ _).alloc (Nat.le_refl _) _, by simp⟩
  case round =>
    obtain ⟨rfl, hB, hsz⟩ := hrel
    go_wp2_with fail
    refine (jpfAvg_none ⟨w.heap.size + 1, 0, none⟩ ⟨w.heap.size, 0, none⟩ _ ?_).mono ?_
    · rw [← hsz, World.cell?_alloc_new]; rfl
    · rintro e w' ⟨t, rfl, rfl⟩
      go_wp2
      go_ret
      exact ⟨_, rfl, (hB.alloc (by omega) _).drew⟩
end Go.Proofs.Youaew
