/-
  The proof of 'Rows.FnCeilBoundsEveryFloatSaid': the frame is the given shells', turned to one float argument (open_float, shut_float); the walk lies in YouaewCeilWalk.
-/
import Derived.Test.YouaewRows
import Derived.Test.YouaewCeilWalk
import Derived.WalkKit
import Derived.ProofKit
import Derived.OpenShut
import Derived.ShutString
import Derived.Laws.Cover2
namespace Go.Proofs.Youaew.fnCeilBoundsEveryFloat
open Go.ChangeShapes Go.WideShapes Go.ChangeAt Go.RowKit
set_option linter.unusedVariables false

theorem own : ownKnob Uaeg.prog.godebug = none := by kernel_rfl

/-! ### THE ROW's STEP -/
set_option maxRecDepth 100000 in
theorem lifted (os : Os) (started : os.Started) (H : Type) (enc : TypeId × Value → H) :
    ReturnsInHanded {} Uaeg.checked os 8 .any (Rows.fnCeilBoundsEveryFloatSpec.pre6 enc Uaeg.prog Uaeg.f8 Rows.fnCeilBoundsEveryFloatRow.domain false) (Rows.fnCeilBoundsEveryFloatSpec.post enc Uaeg.prog Uaeg.f8 false true false false) := by
  refine returnsInHanded_of_change (C := Uaeg.checked) own started (by kernel_rfl) Uaeg.func8
    (ChangeSpec.witness6 (enc := enc) (C := Uaeg.checked) false ⟨#[], #[.float .f64 0], []⟩ 8 (by kernel_rfl) (by kernel_rfl) (by kernel_rfl) (by kernel_rfl)) ?_
  intro W base args ds gs before hval0 hW hcnd _
  have hval : ∀ (j : Nat) t v, Uaeg.f8.params[j]? = some t → args[j]? = some v → Value.okWide Uaeg.prog W .any base t v := hval0
  have hW' := hW
  obtain ⟨p, q, hA0, hV, rfl, hfz, hnd⟩ := hW
  have hA : DataW.TrodAll enc Uaeg.prog W 0 (fun _ => true) true Uaeg.f8.params.toList args.toList ds p := hA0
  rw [Uaeg.params8] at hA hval
  obtain ⟨v0, vs0, d0, ds0, p0, q0, hargs, rfl, rfl, h0, r0⟩ := trodAll_cons hA
  obtain ⟨rfl, rfl, rfl⟩ := trodAll_nil r0
  obtain rfl : args = #[v0] := by cases args; simp_all
  obtain ⟨rfl, rfl⟩ := trodVars_none hV
  obtain ⟨a0, rfl, rfl, rfl, w0⟩ := open_float Uaeg.underlying27 (hval 0 27 v0 rfl rfl) h0
  clear hA0 hval0
  simp only [List.append_nil] at hW'
  refine (walk_all a0 W).mono fun e W' ⟨he, hg⟩ => ?_
  subst he
  exact ⟨_, rfl, post_of_same (pa := []) (pv := []) hW' (fun _ _ _ => (trodAll_cons_mk (shut_bool Uaeg.underlying4 _) trodAll_mk0)) (fun sp _ => (trodAll_cons_mk (shut_float Uaeg.underlying27 w0) trodAll_mk0)) (fun _ _ => rfl) rfl
    (hg.frame _) hg.2.1 (ok_one (by kernel_rfl) rfl (okWide_bool_mk Uaeg.underlying4 _))⟩

theorem over : Rows.fnCeilBoundsEveryFloatRow.holds Uaeg.pinned (OpenSpec.ofChange Rows.fnCeilBoundsEveryFloatSpec) :=
  OpenClaim.holds_of_wide 8 Uaeg.f8 rfl rfl rfl rfl rfl rfl rfl ⟨rfl, rfl, rfl, rfl, rfl⟩ rfl rfl rfl rfl rfl (by kernel_rfl) Uaeg.func8 (by kernel_rfl)
    (of_decide_eq_true (by kernel_rfl)) (by unfold Func.isWrapper; first | (rw [if_pos (by decide +kernel)]; kernel_rfl) | (rw [if_neg (by decide +kernel)]; exact ⟨rfl, rfl⟩))
    (fun os started H enc _ => lifted os started H enc)

/-- The statement. -/
theorem proved : Rows.FnCeilBoundsEveryFloatSaid :=
  over
end Go.Proofs.Youaew.fnCeilBoundsEveryFloat
