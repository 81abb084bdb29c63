/-
  The proof of 'Rows.FnAvgOfDoubledListAndBoundsSaid': the frame is the given shell's; the walk lies in YouaewAvgTwice.
-/
import Derived.Test.YouaewRows
import Derived.Test.YouaewAvgTwice
import Derived.WalkKit
import Derived.ProofKit
import Derived.OpenShut
import Derived.ShutString
import Derived.ChangeOld
import Derived.Below
namespace Go.Proofs.Youaew.fnAvgOfDoubledListAndBounds
open Go.ChangeShapes Go.WideShapes Go.ChangeAt Go.RowKit
open Go.ChangeMaps (open_string shut_string)
set_option linter.unusedVariables false

theorem own : ownKnob Uaeg.prog.godebug = none := by kernel_rfl
theorem laidOut : laidOutB Uaeg.prog = true := by kernel_rfl

/-- WHAT THE WALK IS TOLD OF A SLICE OF INTEGERS THAT CAME IN: it is nil; or it leads to a row of 'cap' cells, the numbers 'zs' (the first 'len' are its elements, the rest its spare room), each fitting its kind. -/
def IsRow (k : IntKind) (w : World) (a : Option Addr) (len cap : Nat) (zs : List Int) : Prop :=
  (a = none ∧ len = 0 ∧ cap = 0 ∧ zs = []) ∨
  ∃ x, a = some x ∧ len ≤ cap ∧ cap ≤ maxLen ∧ zs.length = cap ∧ (∀ i, i < zs.length → w.cell? (x.add i) = some (.int k (zs.getD i 0))) ∧ ∀ n ∈ zs, (Lit.int k n).wf = true

theorem wf_i32 (n : Int) (h : (Lit.int .i32 n).wf = true) : -2147483648 ≤ n ∧ n ≤ 2147483647 := by
  simp only [Lit.wf, Bool.and_eq_true] at h
  have a : IntKind.i32.min = -2147483648 := by decide
  have b : IntKind.i32.max = 2147483647 := by decide
  rw [a, b] at h
  exact ⟨of_decide_eq_true h.1, of_decide_eq_true h.2⟩

theorem getD_mem (l : List Int) (i : Nat) (h : i < l.length) : l.getD i 0 ∈ l := by
  simp [h]

/-! ### STEP 1: THE WALK (its parts: YouaewAvgTwice) -/
theorem walk (a0 : Option Addr) (len0 cap0 : Nat) (z0 : List Int) (w : World) (w0 : IsRow .i32 w a0 len0 cap0 z0) :
    Calls Uaeg.prog 6 #[.slice a0 len0 cap0] w fun e w' => e = .returned (.bool true) ∧ Below w.heap.size w w' := by
  rcases w0 with ⟨rfl, rfl, rfl, rfl⟩ | ⟨x, rfl, h1, h2, h3, h4, h5⟩
  · exact walk_zero _ _ _
  · by_cases h0 : len0 = 0
    · subst h0; exact walk_zero _ _ _
    · by_cases hn : 32768 < len0
      · exact walk_long _ _ _ _ (Nat.le_trans h1 h2) hn
      · refine walk_some x len0 cap0 (fun i => z0.getD i 0) w (by omega) (by omega) (fun i hi => ?_) (fun i hi => h4 i (by omega))
        exact wf_i32 _ (h5 _ (getD_mem z0 i (by omega)))

/-! ### THE ROW's STEP: WRITTEN OUT: LEAVE IT -/
set_option maxRecDepth 100000 in
theorem lifted (os : Os) (started : os.Started) (H : Type) (enc : TypeId × Value → H) :
    ReturnsInHanded {} Uaeg.checked os 6 .any (Rows.fnAvgOfDoubledListAndBoundsSpec.pre6 enc Uaeg.prog Uaeg.f6 Rows.fnAvgOfDoubledListAndBoundsRow.domain false) (Rows.fnAvgOfDoubledListAndBoundsSpec.post enc Uaeg.prog Uaeg.f6 false true false false) := by
  refine returnsInHanded_of_change (C := Uaeg.checked) own started (by kernel_rfl) Uaeg.func6
    (ChangeSpec.witness6 (enc := enc) (C := Uaeg.checked) false ⟨#[], #[.slice none 0 0], []⟩ 8 (by kernel_rfl) (by kernel_rfl) (by kernel_rfl) (by kernel_rfl)) ?_
  intro W base args ds gs before hval0 hW hcnd _
  have hval : ∀ (j : Nat) t v, Uaeg.f6.params[j]? = some t → args[j]? = some v → Value.okWide Uaeg.prog W .any base t v := hval0
  have hW' := hW
  obtain ⟨p, q, hA0, hV, rfl, hfz, hnd⟩ := hW
  have hA : DataW.TrodAll enc Uaeg.prog W 0 (fun _ => true) true Uaeg.f6.params.toList args.toList ds p := hA0
  rw [Uaeg.params6] at hA hval
  obtain ⟨v0, vs0, d0, ds0, p0, q0, hargs, rfl, rfl, h0, r0⟩ := trodAll_cons hA
  obtain ⟨rfl, rfl, rfl⟩ := trodAll_nil r0
  obtain rfl : args = #[v0] := by cases args; simp_all
  obtain ⟨rfl, rfl⟩ := trodVars_none hV
  obtain ⟨a0, len0, cap0, rfl⟩ := okWide_slice Uaeg.underlying24 (hval 0 24 v0 rfl rfl)
  have k0 := h0
  have lt0 : ∀ x ∈ p0, x.block < W.heap.size := by obtain ⟨m, hm⟩ := k0; exact DataW.trod_lt m _ _ _ hm
  obtain ⟨z0, w0⟩ : ∃ zs, IsRow .i32 W a0 len0 cap0 zs := by
    obtain ⟨fuel, hf⟩ := h0
    rcases open_ints Uaeg.underlying24 Uaeg.underlying21 (by kernel_rfl) hf with ⟨hcs, _⟩ | ⟨x, l, c, zs, hcs, _, hl, hm, hz, _, hcell, hwz⟩
    · simp [Value.cells] at hcs
      obtain ⟨rfl, rfl, rfl⟩ := hcs
      exact ⟨[], .inl ⟨rfl, rfl, rfl, rfl⟩⟩
    · simp [Value.cells] at hcs
      obtain ⟨rfl, rfl, rfl⟩ := hcs
      exact ⟨zs, .inr ⟨_, rfl, hl, hm, by simpa using hz, hcell, hwz⟩⟩
  clear hA0 hval0
  refine (walk a0 len0 cap0 z0 W w0).mono fun e W' ⟨he, bel⟩ => ?_
  subst he
  exact ⟨_, rfl, _, _, _, [], _, [], hW', trodAll_mk1 (shut_bool Uaeg.underlying4 _), (trodAll_cons_mk (Below.trod laidOut (by kernel_rfl) (of_decide_eq_true (by kernel_rfl)) k0 bel lt0) trodAll_mk0), rfl, bel.frame _, fun h => by cases h⟩

theorem over : Rows.fnAvgOfDoubledListAndBoundsRow.holds Uaeg.pinned (OpenSpec.ofChange Rows.fnAvgOfDoubledListAndBoundsSpec) :=
  OpenClaim.holds_of_wide 6 Uaeg.f6 rfl rfl rfl rfl rfl rfl rfl ⟨rfl, rfl, rfl, rfl, rfl⟩ rfl rfl rfl rfl rfl (by kernel_rfl) Uaeg.func6 (by kernel_rfl)
    (of_decide_eq_true (by kernel_rfl)) (by unfold Func.isWrapper; first | (rw [if_pos (by decide +kernel)]; kernel_rfl) | (rw [if_neg (by decide +kernel)]; exact ⟨rfl, rfl⟩))
    (fun os started H enc _ => lifted os started H enc)

/-- ████ THE STATEMENT ████ -/
theorem proved : Rows.FnAvgOfDoubledListAndBoundsSaid := over
end Go.Proofs.Youaew.fnAvgOfDoubledListAndBounds
