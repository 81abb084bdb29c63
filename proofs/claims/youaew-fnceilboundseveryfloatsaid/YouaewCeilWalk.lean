/-
  The walk of FnCeilBoundsEveryFloat (function 8).
-/
import Derived.Test.YouaewRows
import Derived.Test.YouaewFloat
import Derived.Test.YouaewCeil
import Derived.Test.YouaewCeilAll
import Derived.WalkKit
import Derived.WalkSpells
import Derived.WalkLawsBesides
namespace Go.Proofs.Youaew.fnCeilBoundsEveryFloat
open Go.RowKit
open Fl (fi)
set_option linter.unusedVariables false

theorem floatOfInt_fi (n : Int) : floatOfInt .f64 n = fi n := rfl
attribute [local go_sem] floatOfInt_fi

theorem order_nan (x : Nat) (h : (Ieee.double.read x).isNaN = true) : FloatKind.f64.format.order x x = none := by
  show Ieee.double.order x x = none
  unfold Ieee.Format.order
  revert h
  cases Ieee.double.read x <;> intro h
  · cases h
  · cases h
  · rfl

set_option maxHeartbeats 400000 in
theorem walk_nan (x : Nat) (w : World) (h : (Ieee.double.read x).isNaN = true) :
    Calls Uaeg.prog 8 #[.float .f64 x] w fun e w' => e = .returned (.bool true) ∧ Grown w w' := by
  have ox := order_nan x h
  have H : Hid ((Ieee.double.read x).isNaN = true) := h
  clear h
  go_enter Uaeg.func8, Uaeg.ntmps8
  go_wp2_with fail
  refine (Ce.ZZ_nan x _ H.out).mono ?_
  rintro e w1 ⟨c, rfl, hc, hg⟩
  have oc := order_nan c hc
  have HG : Hid (Grown w w1) := hg
  clear hc hg
  go_wp2
  go_ret
  exact ⟨rfl, HG.out⟩

/-- What the walk wants of the guarded conversion. -/
def Conv (c : Nat) : Prop :=
  (FloatKind.f64.format.order c 14109754808297022976 == some .gt) = false ∨
  ((FloatKind.f64.format.order c 14109754808297022976 == some .gt) = true ∧ (FloatKind.f64.format.order c 4886382771442247168 == some .lt) = false) ∨
  ((FloatKind.f64.format.order c 14109754808297022976 == some .gt) = true ∧ (FloatKind.f64.format.order c 4886382771442247168 == some .lt) = true ∧
    ∃ v : Int, floatToIntVal .f64 c .i64 = some v ∧ FloatKind.f64.format.order (fi v) c = some .eq)

set_option maxHeartbeats 1000000 in
theorem walk_parts (x : Nat) (w : World) (hn : Hid ((Ieee.double.read x).isNaN = false)) (ox : FloatKind.f64.format.order x x = some .eq)
    (oc : FloatKind.f64.format.order (Ce.ceilOf x) (Ce.ceilOf x) = some .eq) (hv : Conv (Ce.ceilOf x))
    (hb : FloatKind.f64.format.order (Ce.ceilOf x) x = some .eq ∨ ((FloatKind.f64.format.order (Ce.ceilOf x) x == some .eq) = false ∧ FloatKind.f64.format.order x (Ce.ceilOf x) = some .lt ∧
      ∃ d, (∀ w, (binOp .sub 27 (.float .f64 (Ce.ceilOf x)) (.float .f64 4607182418800017408)).run Uaeg.prog w = .ok (.float .f64 d) w) ∧ FloatKind.f64.format.order d x = some .lt)) :
    Calls Uaeg.prog 8 #[.float .f64 x] w fun e w' => e = .returned (.bool true) ∧ Grown w w' := by
  have hz := Ce.ZZ_num x w hn.out
  generalize Ce.ceilOf x = c at *
  have HZ : Hid (Calls Uaeg.prog 18 #[.float .f64 x] w fun e w' => e = .returned (.float .f64 c) ∧ Grown w w') := hz
  clear hz hn
  rcases hv with g1 | ⟨g1, g2⟩ | ⟨g1, g2, v, hv, ov⟩
  · rcases hb with hb | ⟨hb, hlt, d, hsub, hd⟩
    all_goals
      go_enter Uaeg.func8, Uaeg.ntmps8
      go_wp2_with fail
      refine HZ.out.mono ?_
      rintro e w1 ⟨rfl, hg⟩
      have HG : Hid (Grown w w1) := hg
      clear hg HZ
      go_wp2
      go_ret
      exact ⟨rfl, HG.out⟩
  · rcases hb with hb | ⟨hb, hlt, d, hsub, hd⟩
    all_goals
      go_enter Uaeg.func8, Uaeg.ntmps8
      go_wp2_with fail
      refine HZ.out.mono ?_
      rintro e w1 ⟨rfl, hg⟩
      have HG : Hid (Grown w w1) := hg
      clear hg HZ
      go_wp2
      go_ret
      exact ⟨rfl, HG.out⟩
  · have hcv : ∀ w, (convert 27 2 (.float .f64 c)).run Uaeg.prog w = .ok (.int .i64 v) w := fun w => run_convert_float_int w 27 2 .f64 .i64 c v (by rw [Uaeg.underlying27]; rfl) Uaeg.underlying2 hv
    clear hv
    rcases hb with hb | ⟨hb, hlt, d, hsub, hd⟩
    all_goals
      go_enter Uaeg.func8, Uaeg.ntmps8
      go_wp2_with fail
      refine HZ.out.mono ?_
      rintro e w1 ⟨rfl, hg⟩
      have HG : Hid (Grown w w1) := hg
      clear hg HZ
      go_wp2
      go_ret
      exact ⟨rfl, HG.out⟩

theorem walk_all (x : Nat) (w : World) : Calls Uaeg.prog 8 #[.float .f64 x] w fun e w' => e = .returned (.bool true) ∧ Grown w w' := by
  cases hn : (Ieee.double.read x).isNaN with
  | true => exact walk_nan x w hn
  | false =>
    obtain ⟨⟨g1, g2⟩, g3⟩ := Fl.law x hn
    refine walk_parts x w hn ?_ g1 ?_ ?_
    · show Ieee.double.order x x = some .eq
      unfold Ieee.Format.order
      exact Fl.order_self _ hn
    · unfold Conv
      cases c1 : (FloatKind.f64.format.order (Ce.ceilOf x) 14109754808297022976 == some .gt) with
      | false => exact .inl rfl
      | true =>
        cases c2 : (FloatKind.f64.format.order (Ce.ceilOf x) 4886382771442247168 == some .lt) with
        | false => exact .inr (.inl ⟨rfl, rfl⟩)
        | true =>
          obtain ⟨v, v1, v2, v3, v4⟩ := g3 (eq_of_beq c1) (eq_of_beq c2)
          refine .inr (.inr ⟨rfl, rfl, v, ?_, v4⟩)
          have hd : (FloatKind.f64.decode (Ce.ceilOf x)).toInt .zero = some v := v1
          unfold floatToIntVal
          rw [hd]
          have a : IntKind.i64.min = -9223372036854775808 := by decide
          have b : IntKind.i64.max = 9223372036854775807 := by decide
          simp only [a, b]
          rw [if_pos ⟨v2, v3⟩]
    · rcases g2 with h | ⟨h1, h2, d, h3, h4⟩
      · exact .inl h
      · refine .inr ⟨?_, h2, d, fun w => run_float_arith w .sub 27 .f64 _ _ _ ?_, h4⟩
        · exact beq_eq_false_iff_ne.2 h1
        · rw [← Fl.fi_1]; exact h3
end Go.Proofs.Youaew.fnCeilBoundsEveryFloat
