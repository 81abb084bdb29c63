/-
  The proof of 'Rows.FnCeilOfGridPointExactSaid': the frame is the given shell's; the walk lies in YouaewGridWalk.
-/
import Derived.Test.YouaewRows
import Derived.Test.YouaewGridWalk
import Derived.WalkKit
import Derived.ProofKit
import Derived.OpenShut
import Derived.ShutString
namespace Go.Proofs.Youaew.fnCeilOfGridPointExact
open Go.ChangeShapes Go.WideShapes Go.ChangeAt Go.RowKit
open Go.ChangeMaps (open_string shut_string)
set_option linter.unusedVariables false      -- a walk need not use every 'w<i>' (that an integer argument fits its kind)

theorem own : ownKnob Uaeg.prog.godebug = none := by kernel_rfl

theorem wf_i32 (n : Int) (h : (Lit.int .i32 n).wf = true) : -2147483648 ≤ n ∧ n ≤ 2147483647 := by
  simp only [Lit.wf, Bool.and_eq_true] at h
  have a : IntKind.i32.min = -2147483648 := by decide
  have b : IntKind.i32.max = 2147483647 := by decide
  rw [a, b] at h
  exact ⟨of_decide_eq_true h.1, of_decide_eq_true h.2⟩

theorem wf_u16 (n : Int) (h : (Lit.int .u16 n).wf = true) : 0 ≤ n ∧ n ≤ 65535 := by
  simp only [Lit.wf, Bool.and_eq_true] at h
  have a : IntKind.u16.min = 0 := by decide
  have b : IntKind.u16.max = 65535 := by decide
  rw [a, b] at h
  exact ⟨of_decide_eq_true h.1, of_decide_eq_true h.2⟩

/-! ### STEP 1: THE WALK (its parts: YouaewGridWalk) -/
theorem walk (a0 : Int) (a1 : Int) (w0 : (Lit.int .i32 a0).wf = true) (w1 : (Lit.int .u16 a1).wf = true) (w : World) :
    Calls Uaeg.prog 7 #[.int .i32 a0, .int .u16 a1] w fun e w' => e = .returned (.bool true) ∧ Grown w w' :=
  walk_all a0 a1 w (wf_i32 a0 w0).1 (wf_i32 a0 w0).2 (wf_u16 a1 w1).1 (wf_u16 a1 w1).2

/-! ### THE ROW's STEP: WRITTEN OUT: LEAVE IT -/
set_option maxRecDepth 100000 in
theorem lifted (os : Os) (started : os.Started) (H : Type) (enc : TypeId × Value → H) :
    ReturnsInHanded {} Uaeg.checked os 7 .any (Rows.fnCeilOfGridPointExactSpec.pre6 enc Uaeg.prog Uaeg.f7 Rows.fnCeilOfGridPointExactRow.domain false) (Rows.fnCeilOfGridPointExactSpec.post enc Uaeg.prog Uaeg.f7 false true false false) := by
  refine returnsInHanded_of_change (C := Uaeg.checked) own started (by kernel_rfl) Uaeg.func7
    (ChangeSpec.witness6 (enc := enc) (C := Uaeg.checked) false ⟨#[], #[.int .i32 0, .int .u16 0], []⟩ 8 (by kernel_rfl) (by kernel_rfl) (by kernel_rfl) (by kernel_rfl)) ?_
  intro W base args ds gs before hval0 hW hcnd _
  have hval : ∀ (j : Nat) t v, Uaeg.f7.params[j]? = some t → args[j]? = some v → Value.okWide Uaeg.prog W .any base t v := hval0
  have hW' := hW
  obtain ⟨p, q, hA0, hV, rfl, hfz, hnd⟩ := hW
  have hA : DataW.TrodAll enc Uaeg.prog W 0 (fun _ => true) true Uaeg.f7.params.toList args.toList ds p := hA0
  rw [Uaeg.params7] at hA hval
  obtain ⟨v0, vs0, d0, ds0, p0, q0, hargs, rfl, rfl, h0, r0⟩ := trodAll_cons hA
  obtain ⟨v1, vs1, d1, ds1, p1, q1, rfl, rfl, rfl, h1, r1⟩ := trodAll_cons r0
  obtain ⟨rfl, rfl, rfl⟩ := trodAll_nil r1
  obtain rfl : args = #[v0, v1] := by cases args; simp_all
  obtain ⟨rfl, rfl⟩ := trodVars_none hV
  obtain ⟨a0, rfl, rfl, rfl, w0⟩ := open_int Uaeg.underlying21 (hval 0 21 v0 rfl rfl) h0
  obtain ⟨a1, rfl, rfl, rfl, w1⟩ := open_int Uaeg.underlying29 (hval 1 29 v1 rfl rfl) h1
  clear hA0 hval0
  simp only [List.append_nil] at hW'
  refine (walk a0 a1 w0 w1 W).mono fun e W' ⟨he, hg⟩ => ?_
  subst he
  exact ⟨_, rfl, post_of_same (pa := []) (pv := []) hW' (fun _ _ _ => (trodAll_cons_mk (shut_bool Uaeg.underlying4 _) trodAll_mk0)) (fun sp _ => (trodAll_cons_mk (shut_int Uaeg.underlying21 w0) (trodAll_cons_mk (shut_int Uaeg.underlying29 w1) trodAll_mk0))) (fun _ _ => rfl) rfl
    (hg.frame _) hg.2.1 (ok_one (by kernel_rfl) rfl (okWide_bool_mk Uaeg.underlying4 _))⟩

theorem over : Rows.fnCeilOfGridPointExactRow.holds Uaeg.pinned (OpenSpec.ofChange Rows.fnCeilOfGridPointExactSpec) :=
  OpenClaim.holds_of_wide 7 Uaeg.f7 rfl rfl rfl rfl rfl rfl rfl ⟨rfl, rfl, rfl, rfl, rfl⟩ rfl rfl rfl rfl rfl (by kernel_rfl) Uaeg.func7 (by kernel_rfl)
    (of_decide_eq_true (by kernel_rfl)) (by unfold Func.isWrapper; first | (rw [if_pos (by decide +kernel)]; kernel_rfl) | (rw [if_neg (by decide +kernel)]; exact ⟨rfl, rfl⟩))
    (fun os started H enc _ => lifted os started H enc)

/-- ████ THE STATEMENT ████ -/
theorem proved : Rows.FnCeilOfGridPointExactSaid :=
  over
end Go.Proofs.Youaew.fnCeilOfGridPointExact
