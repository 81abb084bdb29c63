/-
  The walk of FnStartsWithMatchesByteModel (function 3) and of its callees: zzBytes (11), ZZstartsWith (12), jpfStartsWith (24), strings.HasPrefix (28), stringslite.HasPrefix (31).
-/
import Derived.Test.YouaewRows
import Derived.WalkKit
import Derived.WalkSpells
import Derived.WalkLawsBesides
import Derived.Lib.Strings
import Derived.Lib.Slices
import Derived.Deep.QuietTactic
import Derived.BigQuiet
namespace Go.Proofs.Youaew.fnStartsWithMatchesByteModel
open Go.RowKit
set_option linter.unusedVariables false

theorem as9 (v : Value) (w : World) : (Instr.typeAssert (.iface 9 v) 20 9 false).run Uaeg.prog w = .ok v w := by kernel_rfl
theorem as4 (v : Value) (w : World) : (Instr.typeAssert (.iface 4 v) 20 4 false).run Uaeg.prog w = .ok v w := by kernel_rfl
attribute [local go_sem] as9 as4

set_option maxHeartbeats 1000000 in
theorem lite_any (s p : ByteArray) (w : World) :
    Calls Uaeg.prog 31 #[.string s, .string p] w fun e w' => e = .returned (.bool (Lib.hasPrefix s.data.toList p.data.toList)) ∧ w' = w := by
  rw [← Lib.hasPrefix_of_take, ← Lib.size_eq, ← Lib.size_eq]
  go_enter Uaeg.func31, Uaeg.ntmps31
  go_wp2
  · rename_i h
    go_ret
    refine ⟨?_, rfl⟩
    show Ending.returned (Value.bool ((s.extract 0 p.size).toList == p.toList)) = _
    rw [Lib.extract_toList, Lib.toList_data]
    simp [h]
  · rename_i h
    go_ret
    refine ⟨?_, rfl⟩
    show Ending.returned (Value.bool false) = _
    simp [h]

set_option maxHeartbeats 400000 in
theorem has_any (s p : ByteArray) (w : World) :
    Calls Uaeg.prog 28 #[.string s, .string p] w fun e w' => e = .returned (.bool (Lib.hasPrefix s.data.toList p.data.toList)) ∧ w' = w := by
  go_enter Uaeg.func28, Uaeg.ntmps28
  go_wp2_with fail
  refine (lite_any s p _).mono ?_
  rintro e w ⟨rfl, rfl⟩
  go_wp2
  go_ret
  exact ⟨rfl, rfl⟩

set_option maxHeartbeats 400000 in
theorem jpf_any (x : Addr) (s p : ByteArray) (b : Bool) (w : World) (hx : w.cell? x = some (.iface 9 (.string s))) (hy : w.cell? ⟨x.block, x.off + 1, none⟩ = some (.iface 9 (.string p)))
    (hb : Hid (Lib.hasPrefix s.data.toList p.data.toList = b)) :
    Calls Uaeg.prog 24 #[.slice (some x) 2 2] w fun e w' => e = .returned (.tuple #[.iface 4 (.bool b), .nilIface]) ∧ w' = w := by
  go_enter Uaeg.func24, Uaeg.ntmps24
  go_wp2_with fail
  refine (has_any s p _).mono ?_
  rintro e w ⟨rfl, rfl⟩
  rw [hb.out]
  go_wp2
  go_ret2
  exact ⟨rfl, rfl⟩

set_option maxHeartbeats 400000 in
theorem ZZ_any (s p : ByteArray) (b : Bool) (w : World) (hb : Hid (Lib.hasPrefix s.data.toList p.data.toList = b)) :
    Calls Uaeg.prog 12 #[.string s, .string p] w fun e w' => e = .returned (.bool b) ∧ Grown w w' := by
  go_enter Uaeg.func12, Uaeg.ntmps12
  go_wp2_with fail
  refine (jpf_any ⟨w.heap.size, 0, none⟩ s p b _ (by rw [World.cell?_alloc_new]; rfl) (by show (World.alloc _ _).cell? ⟨w.heap.size, 1, none⟩ = _; rw [World.cell?_alloc_new]; rfl) hb).mono ?_
  rintro e w1 ⟨rfl, rfl⟩
  go_wp2
  go_ret
  exact ⟨rfl, (Grown.refl _).alloc _ _⟩

set_option maxHeartbeats 400000 in
theorem bytes_any (s p : ByteArray) (w : World) (h : s.size + p.size ≤ 1048576) :
    Calls Uaeg.prog 11 #[.string s, .string p] w fun e w' => e = .returned (.bool true) ∧ w' = w := by
  go_enter Uaeg.func11, Uaeg.ntmps11
  go_wp2
  go_ret
  exact ⟨rfl, rfl⟩

set_option maxHeartbeats 400000 in
theorem bytes_no (s p : ByteArray) (w : World) (hs : s.size ≤ maxLen) (hp : p.size ≤ maxLen) (h : 1048576 < s.size + p.size) :
    Calls Uaeg.prog 11 #[.string s, .string p] w fun e w' => e = .returned (.bool false) ∧ w' = w := by
  unfold maxLen at hs hp
  by_cases h1 : 1048576 < s.size
  · go_enter Uaeg.func11, Uaeg.ntmps11
    go_wp2
    go_ret
    exact ⟨rfl, rfl⟩
  · by_cases h2 : 1048576 < p.size
    · go_enter Uaeg.func11, Uaeg.ntmps11
      go_wp2
      go_ret
      exact ⟨rfl, rfl⟩
    · go_enter Uaeg.func11, Uaeg.ntmps11
      go_wp2
      go_ret
      exact ⟨rfl, rfl⟩

set_option maxHeartbeats 400000 in
theorem walk_no (s p : ByteArray) (w : World) (hs : s.size ≤ maxLen) (hp : p.size ≤ maxLen) (h : 1048576 < s.size + p.size) :
    Calls Uaeg.prog 3 #[.string s, .string p] w fun e w' => e = .returned (.bool true) ∧ Grown w w' := by
  go_enter Uaeg.func3, Uaeg.ntmps3
  go_wp2_with fail
  refine (bytes_no s p _ hs hp h).mono ?_
  rintro e w ⟨rfl, rfl⟩
  go_wp2
  go_ret
  exact ⟨rfl, Grown.refl _⟩

set_option maxHeartbeats 400000 in
theorem walk_long (s p : ByteArray) (w : World) (h : s.size + p.size ≤ 1048576) (hl : 65536 < s.size ∨ 65536 < p.size) :
    Calls Uaeg.prog 3 #[.string s, .string p] w fun e w' => e = .returned (.bool true) ∧ Grown w w' := by
  by_cases h1 : 65536 < s.size
  · clear hl
    go_enter Uaeg.func3, Uaeg.ntmps3
    go_wp2_with fail
    refine (bytes_any s p _ h).mono ?_
    rintro e w ⟨rfl, rfl⟩
    go_wp2
    go_ret
    exact ⟨rfl, Grown.refl _⟩
  · have h2 : 65536 < p.size := by omega
    clear hl
    go_enter Uaeg.func3, Uaeg.ntmps3
    go_wp2_with fail
    refine (bytes_any s p _ h).mono ?_
    rintro e w ⟨rfl, rfl⟩
    go_wp2
    go_ret
    exact ⟨rfl, Grown.refl _⟩

theorem not_prefix (s p : ByteArray) (h : s.size < p.size) : Lib.hasPrefix s.data.toList p.data.toList = false := by
  rw [← Lib.hasPrefix_of_take, ← Lib.size_eq, ← Lib.size_eq]
  simp; omega

set_option maxHeartbeats 400000 in
theorem walk_short (s p : ByteArray) (w : World) (hs : s.size ≤ 65536) (hp : p.size ≤ 65536) (h : s.size < p.size) :
    Calls Uaeg.prog 3 #[.string s, .string p] w fun e w' => e = .returned (.bool true) ∧ Grown w w' := by
  go_enter Uaeg.func3, Uaeg.ntmps3
  go_wp2_with fail
  refine (bytes_any s p _ (by omega)).mono ?_
  rintro e w ⟨rfl, rfl⟩
  go_wp2_with fail
  refine (ZZ_any s p false _ (not_prefix s p h)).mono ?_
  rintro e w1 ⟨rfl, hg⟩
  go_wp2
  go_ret
  exact ⟨rfl, hg⟩

/-- The first k bytes agree. -/
def agree (s p : ByteArray) (k : Nat) : Prop := ∀ j, j < k → s.data.toList[j]? = p.data.toList[j]?

theorem agree_all (s p : ByteArray) (h : p.size ≤ s.size) (ha : agree s p p.size) : Lib.hasPrefix s.data.toList p.data.toList = true := by
  rw [← Lib.hasPrefix_of_take, ← Lib.size_eq, ← Lib.size_eq, Bool.and_eq_true]
  refine ⟨by simpa using h, ?_⟩
  rw [beq_iff_eq]
  apply List.ext_getElem?
  intro i
  rw [List.getElem?_take]
  by_cases hi : i < p.size
  · rw [if_pos hi]; exact ha i hi
  · rw [if_neg hi]
    have : p.data.toList.length ≤ i := by rw [← Lib.size_eq]; omega
    rw [List.getElem?_eq_none this]

theorem agree_not (s p : ByteArray) (k : Nat) (hk : k < p.size) (hne : s.data.toList[k]? ≠ p.data.toList[k]?) : Lib.hasPrefix s.data.toList p.data.toList = false := by
  rw [← Lib.hasPrefix_of_take, ← Lib.size_eq, ← Lib.size_eq]
  rw [Bool.and_eq_false_iff]
  right
  rw [beq_eq_false_iff_ne]
  intro e
  apply hne
  rw [← e, List.getElem?_take, if_pos hk]

theorem at_list (s : ByteArray) (k : Nat) (h : k < s.size) : s.data.toList[k]? = some s[k] := by
  rw [List.getElem?_eq_getElem (by rw [← Lib.size_eq]; exact h)]
  rfl

theorem agree_step (s p : ByteArray) (k : Nat) (hs : k < s.size) (hp : k < p.size) (ha : agree s p k) (he : s[k] = p[k]) : agree s p (k + 1) := by
  intro j hj
  by_cases e : j = k
  · subst e
    rw [at_list s j hs, at_list p j hp, he]
  · exact ha j (by omega)

theorem agree_not' (s p : ByteArray) (k : Nat) (hs : k < s.size) (hp : k < p.size) (he : ¬ s[k] = p[k]) : Lib.hasPrefix s.data.toList p.data.toList = false := by
  refine agree_not s p k hp fun e => he ?_
  rw [at_list s k hs, at_list p k hp] at e
  exact Option.some.inj e

set_option maxHeartbeats 400000 in
theorem walk_main (s p : ByteArray) (w : World) (hs : s.size ≤ 65536) (hp : p.size ≤ 65536) (h : p.size ≤ s.size) :
    Calls Uaeg.prog 3 #[.string s, .string p] w fun e w' => e = .returned (.bool true) ∧ Grown w w' := by
  go_enter Uaeg.func3, Uaeg.ntmps3
  go_wp2_with fail
  refine (bytes_any s p _ (by omega)).mono ?_
  rintro e w ⟨rfl, rfl⟩
  go_wp2
  go_loopw [5, 6] (fun q i wr => ∃ k : Nat, k ≤ p.size ∧ q = .bool true ∧ i = .int .i64 k ∧ (∃ m, wr = w.drewN m) ∧ agree s p k) (fun _ i _ => p.size - (intOf i).toNat)
  case atStart => exact ⟨0, Nat.zero_le _, rfl, rfl, ⟨0, rfl⟩, fun j hj => absurd hj (Nat.not_lt_zero _)⟩
  case round =>
    obtain ⟨k, hk, rfl, rfl, ⟨m, rfl⟩, ha⟩ := hrel
    have HA : Hid (agree s p k) := ha
    clear ha
    by_cases hlt : k < p.size
    · have hks : k < s.size := by omega
      by_cases heq : s[k] = p[k]
      · have hb : ((s[k].toNat : Int) != (p[k].toNat : Int)) = false := by rw [heq]; simp
        have HE : Hid (s[k] = p[k]) := heq
        clear heq
        go_wp2
        go_quiet (fail)
        go_wp2
        go_roundw
        case rel => exact ⟨k + 1, by omega, rfl, by go_num, ⟨m + nq, by simp [World.drewN]⟩, agree_step s p k hks hlt HA.out HE.out⟩
        case measure => simp [intOf]; omega
      · have hb : ((s[k].toNat : Int) != (p[k].toNat : Int)) = true := by
          rw [bne_iff_ne]
          intro e
          exact heq (UInt8.toNat_inj.1 (by omega))
        have HE : Hid (¬ s[k] = p[k]) := heq
        clear heq
        go_wp2
        go_quiet (fail)
        go_wp2_with fail
        refine (ZZ_any s p false _ (agree_not' s p k hks hlt HE.out)).mono ?_
        rintro e w1 ⟨rfl, hg1⟩
        go_wp2
        go_ret
        exact ⟨rfl, hg1⟩
    · have e : k = p.size := by omega
      subst e
      go_wp2_with fail
      refine (ZZ_any s p true _ (agree_all s p h HA.out)).mono ?_
      rintro e w1 ⟨rfl, hg1⟩
      go_wp2
      go_ret
      exact ⟨rfl, hg1⟩
end Go.Proofs.Youaew.fnStartsWithMatchesByteModel
