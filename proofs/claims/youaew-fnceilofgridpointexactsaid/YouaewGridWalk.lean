/-
  The walk of FnCeilOfGridPointExact (function 7).
-/
import Derived.Test.YouaewRows
import Derived.Test.YouaewFloat
import Derived.Test.YouaewCeil
import Derived.Test.YouaewGrid
import Derived.WalkKit
import Derived.WalkSpells
import Derived.WalkLawsBesides
namespace Go.Proofs.Youaew.fnCeilOfGridPointExact
open Go.RowKit
open Fl (fi)
set_option linter.unusedVariables false

theorem floatOfInt_fi (n : Int) : floatOfInt .f64 n = fi n := rfl
attribute [local go_sem] floatOfInt_fi

set_option maxHeartbeats 400000 in
theorem walk_parts (n f : Int) (Q X W : Nat) (w : World) (h1 : -2147483648 ≤ n) (h2 : n ≤ 2147483647) (h3 : 0 ≤ f) (h4 : f ≤ 65535)
    (hq : ∀ w, (binOp .quo 27 (.float .f64 (fi f)) (.float .f64 4679240012837945344)).run Uaeg.prog w = .ok (.float .f64 Q) w)
    (ha : ∀ w, (binOp .add 27 (.float .f64 (fi n)) (.float .f64 Q)).run Uaeg.prog w = .ok (.float .f64 X) w)
    (hX : Hid ((Ieee.double.read X).isNaN = false))
    (hn : (f = 0 ∧ W = fi n) ∨ (f ≠ 0 ∧ ∀ w, (binOp .add 27 (.float .f64 (fi n)) (.float .f64 4607182418800017408)).run Uaeg.prog w = .ok (.float .f64 W) w))
    (ho : FloatKind.f64.format.order (Ce.ceilOf X) W = some .eq) :
    Calls Uaeg.prog 7 #[.int .i32 n, .int .u16 f] w fun e w' => e = .returned (.bool true) ∧ Grown w w' := by
  rcases hn with ⟨rfl, rfl⟩ | ⟨hf, hw⟩
  · go_enter Uaeg.func7, Uaeg.ntmps7
    go_wp2_with fail
    refine (Ce.ZZ_num X _ hX.out).mono ?_
    rintro e w1 ⟨rfl, hg⟩
    go_wp2
    go_ret
    exact ⟨rfl, hg⟩
  · have hf' : (f != 0) = true := by simpa using hf
    go_enter Uaeg.func7, Uaeg.ntmps7
    go_wp2_with fail
    refine (Ce.ZZ_num X _ hX.out).mono ?_
    rintro e w1 ⟨rfl, hg⟩
    go_wp2
    go_ret
    exact ⟨rfl, hg⟩

theorem walk_all (n f : Int) (w : World) (h1 : -2147483648 ≤ n) (h2 : n ≤ 2147483647) (h3 : 0 ≤ f) (h4 : f ≤ 65535) :
    Calls Uaeg.prog 7 #[.int .i32 n, .int .u16 f] w fun e w' => e = .returned (.bool true) ∧ Grown w w' := by
  obtain ⟨F, rfl⟩ := Int.eq_ofNat_of_zero_le h3
  have hF : F < 65536 := by omega
  refine walk_parts n F (Ieee.double.nearest false F (-16)) (Ieee.double.nearest (decide (n * 65536 + F < 0)) (n * 65536 + F).natAbs (-16)) (fi (if F = 0 then n else n + 1)) w h1 h2 h3 h4 ?_ ?_ ?_ ?_ ?_
  · intro w
    refine run_float_arith w .quo 27 .f64 _ _ _ ?_
    rw [← Fl.fi_65536]
    exact Fl.div_65536 F (by omega)
  · intro w
    exact run_float_arith w .add 27 .f64 _ _ _ (Fl.add_grid n F h1 h2 hF)
  · exact Fl.read_nearest_not_nan _ _ _
  · by_cases h0 : F = 0
    · left
      exact ⟨by omega, by rw [if_pos h0]⟩
    · right
      refine ⟨by omega, fun w => run_float_arith w .add 27 .f64 _ _ _ ?_⟩
      rw [← Fl.fi_1, if_neg h0]
      exact Fl.add_fi n 1 (by omega) (by omega)
  · exact Fl.grid_law n F h1 h2 hF
end Go.Proofs.Youaew.fnCeilOfGridPointExact
