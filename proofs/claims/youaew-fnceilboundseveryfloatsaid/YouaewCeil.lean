/-
  What math.Ceil (30), jpfCeil (27), ZZceil (18) do to the world.
-/
import Derived.Test.YouaewRows
import Derived.Test.YouaewFloat
import Derived.WalkKit
import Derived.WalkSpells
import Derived.WalkLawsBesides
import Derived.Laws.Externs
namespace Go.Proofs.Youaew.Ce
open Go.RowKit
open Ieee
set_option linter.unusedVariables false

theorem as27 (v : Value) (w : World) : (Instr.typeAssert (.iface 27 v) 20 27 false).run Uaeg.prog w = .ok v w := by kernel_rfl
attribute [local go_sem] as27

theorem x33_n : Extern.findNext Uaeg.f33 = none := by kernel_rfl
theorem x33_f : Extern.find Uaeg.f33 = some (Extern.MathFloor.toIntegral "math.archCeil" .up) := by kernel_rfl

theorem run_arch (x : Nat) (w : World) :
    (callFunc 33 #[.float .f64 x]).run Uaeg.prog w = ((Extern.MathFloor.toIntegral "math.archCeil" .up #[.float .f64 x]).run Uaeg.prog w).andThen fun v w' => .ok (.value v) w' :=
  run_callFunc_extern Uaeg.func33 (by kernel_rfl) (by kernel_rfl) x33_n x33_f _ w

/-- The bits that math.Ceil gives of a number or an infinity. -/
def ceilOf (x : Nat) : Nat := double.write ((double.read x).integral .up)

theorem toIntegral_eq (x : Nat) : ∃ q : Question, Extern.MathFloor.toIntegral "math.archCeil" .up #[.float .f64 x] =
    (match double.read x with
    | .nan s t =>
      if FloatKind.f64.format.quiet t = t then pure (.float .f64 x) else do
      let kept ← choose q
      pure (.float .f64 (if kept == 1 then x else double.write (.nan s (double.quiet t))))
    | d => pure (.float .f64 (double.write (d.integral .up)))) ∧ q.forced = false := ⟨_, rfl, rfl⟩

theorem run_arch_num (x : Nat) (h : (double.read x).isNaN = false) (w : World) : (callFunc 33 #[.float .f64 x]).run Uaeg.prog w = .ok (.value (.float .f64 (ceilOf x))) w := by
  obtain ⟨q, e, hf⟩ := toIntegral_eq x
  rw [run_arch, e]
  cases hd : double.read x with
  | nan s t => rw [hd] at h; cases h
  | number s m i => simp [ceilOf, hd]
  | infinity s => simp [ceilOf, hd]

theorem nan_quiet (s : Bool) (t : Nat) : (double.read (double.write (.nan s (double.quiet t)))).isNaN = true := by
  have hb : (double.quiet t % double.binade).testBit 51 = true := by
    show ((t ||| 2 ^ 51) % 2 ^ 52).testBit 51 = true
    rw [Nat.testBit_mod_two_pow, Nat.testBit_or, Nat.testBit_two_pow_self, Bool.or_true]
    rfl
  have h0 : double.quiet t % double.binade ≠ 0 := by
    intro e; rw [e] at hb; simp at hb
  have hlt : double.quiet t % double.binade < 4503599627370496 := Nat.mod_lt _ (by decide)
  unfold Format.write
  simp only
  generalize double.quiet t % double.binade = q at *
  rw [Fl.read_word _ _ (by rw [Fl.d_inf, Fl.d_sign]; omega)]
  unfold Fl.rungDatum
  rw [Fl.d_inf, Fl.d_binade, if_neg (by omega), if_neg (by omega), if_neg (by omega)]
  rfl

theorem run_arch_nan (x : Nat) (h : (double.read x).isNaN = true) (w : World) :
    ∃ c w', (callFunc 33 #[.float .f64 x]).run Uaeg.prog w = .ok (.value (.float .f64 c)) w' ∧ (double.read c).isNaN = true ∧ (w' = w ∨ w' = w.drew) := by
  obtain ⟨q, e, hf⟩ := toIntegral_eq x
  rw [run_arch, e]
  cases hd : double.read x with
  | number s m i => rw [hd] at h; cases h
  | infinity s => rw [hd] at h; cases h
  | nan s t =>
    simp only
    by_cases hq : FloatKind.f64.format.quiet t = t
    · rw [if_pos hq]
      exact ⟨x, w, rfl, h, .inl rfl⟩
    · rw [if_neg hq]
      refine ⟨if q.cut (w.tape w.drawn q) == 1 then x else double.write (.nan s (double.quiet t)), w.drew, ?_, ?_, .inr rfl⟩
      · simp [hf]
      · split
        · exact h
        · exact nan_quiet s t

set_option maxHeartbeats 400000 in
theorem ceil_num (x : Nat) (w : World) (h : (double.read x).isNaN = false) :
    Calls Uaeg.prog 30 #[.float .f64 x] w fun e w' => e = .returned (.float .f64 (ceilOf x)) ∧ w' = w := by
  have hr := run_arch_num x h
  go_enter Uaeg.func30, Uaeg.ntmps30
  go_wp2
  go_ret
  exact ⟨rfl, rfl⟩

set_option maxHeartbeats 400000 in
theorem ceil_nan (x : Nat) (w : World) (h : (double.read x).isNaN = true) :
    Calls Uaeg.prog 30 #[.float .f64 x] w fun e w' => ∃ c, e = .returned (.float .f64 c) ∧ (double.read c).isNaN = true ∧ (w' = w ∨ w' = w.drew) := by
  obtain ⟨c, w1, hr, hc, hw⟩ := run_arch_nan x h w
  clear h
  go_enter Uaeg.func30, Uaeg.ntmps30
  go_wp2
  go_ret
  exact ⟨c, rfl, hc, hw⟩

set_option maxHeartbeats 400000 in
theorem jpf_num (x : Addr) (b : Nat) (w : World) (hx : w.cell? x = some (.iface 27 (.float .f64 b))) (h : (double.read b).isNaN = false) :
    Calls Uaeg.prog 27 #[.slice (some x) 1 1] w fun e w' => e = .returned (.tuple #[.iface 27 (.float .f64 (ceilOf b)), .nilIface]) ∧ w' = w := by
  have H : Hid ((double.read b).isNaN = false) := h
  clear h
  go_enter Uaeg.func27, Uaeg.ntmps27
  go_wp2_with fail
  refine (ceil_num b _ H.out).mono ?_
  rintro e w ⟨rfl, rfl⟩
  go_wp2
  go_ret2
  exact ⟨rfl, rfl⟩

set_option maxHeartbeats 400000 in
theorem jpf_nan (x : Addr) (b : Nat) (w : World) (hx : w.cell? x = some (.iface 27 (.float .f64 b))) (h : (double.read b).isNaN = true) :
    Calls Uaeg.prog 27 #[.slice (some x) 1 1] w fun e w' => ∃ c, e = .returned (.tuple #[.iface 27 (.float .f64 c), .nilIface]) ∧ (double.read c).isNaN = true ∧ (w' = w ∨ w' = w.drew) := by
  have H : Hid ((double.read b).isNaN = true) := h
  clear h
  go_enter Uaeg.func27, Uaeg.ntmps27
  go_wp2_with fail
  refine (ceil_nan b _ H.out).mono ?_
  rintro e w1 ⟨c, rfl, hc, hw⟩
  have HC : Hid ((double.read c).isNaN = true ∧ (w1 = w ∨ w1 = w.drew)) := ⟨hc, hw⟩
  clear hc hw
  go_wp2
  go_ret2
  exact ⟨c, rfl, HC.out⟩

set_option maxHeartbeats 400000 in
theorem ZZ_num (b : Nat) (w : World) (h : (double.read b).isNaN = false) :
    Calls Uaeg.prog 18 #[.float .f64 b] w fun e w' => e = .returned (.float .f64 (ceilOf b)) ∧ Grown w w' := by
  have H : Hid ((double.read b).isNaN = false) := h
  clear h
  go_enter Uaeg.func18, Uaeg.ntmps18
  go_wp2_with fail
  refine (jpf_num ⟨w.heap.size, 0, none⟩ b _ (by rw [World.cell?_alloc_new]; rfl) H.out).mono ?_
  rintro e w1 ⟨rfl, rfl⟩
  go_wp2
  go_ret
  exact ⟨rfl, (Grown.refl _).alloc _ _⟩

set_option maxHeartbeats 400000 in
theorem ZZ_nan (b : Nat) (w : World) (h : (double.read b).isNaN = true) :
    Calls Uaeg.prog 18 #[.float .f64 b] w fun e w' => ∃ c, e = .returned (.float .f64 c) ∧ (double.read c).isNaN = true ∧ Grown w w' := by
  have H : Hid ((double.read b).isNaN = true) := h
  clear h
  go_enter Uaeg.func18, Uaeg.ntmps18
  go_wp2_with fail
  refine (jpf_nan ⟨w.heap.size, 0, none⟩ b _ (by rw [World.cell?_alloc_new]; rfl) H.out).mono ?_
  rintro e w1 ⟨c, rfl, hc, hw⟩
  have hg : Grown w w1 := by
    rcases hw with rfl | rfl
    · exact (Grown.refl _).alloc _ _
    · exact ((Grown.refl _).alloc _ _).drew
  have HC : Hid ((double.read c).isNaN = true ∧ Grown w w1) := ⟨hc, hg⟩
  clear hc hw hg
  go_wp2
  go_ret
  exact ⟨c, rfl, HC.out⟩
end Go.Proofs.Youaew.Ce
