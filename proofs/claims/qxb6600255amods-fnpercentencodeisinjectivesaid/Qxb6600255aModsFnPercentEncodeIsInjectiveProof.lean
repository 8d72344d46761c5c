/-
  THE PROOF OF 'Rows.FnPercentEncodeIsInjectiveSaid': the frame after the kit's shell; the walk is ours.
-/
import Derived.Test.Qxb6600255aModsRows
import Derived.Test.Qxb6600255aModsEncode
import Derived.WalkKit
import Derived.ProofKit
import Derived.OpenShut
import Derived.ShutString
import Derived.ChangeOld
import Derived.Below
namespace Go.Proofs.Qxb6600255aMods.fnPercentEncodeIsInjective
open Go.ChangeShapes Go.WideShapes Go.ChangeAt Go.RowKit
open Go.ChangeMaps (open_string shut_string)
open Enc
set_option linter.unusedVariables false

theorem own : ownKnob Trym.prog.godebug = none := by kernel_rfl

/-! ### The bound on total length (12) -/
theorem zz12_yes (a b : ByteArray) (w : World) (h : a.size + b.size ≤ 1048576) :
    Calls Trym.prog 12 #[.string a, .string b] w fun e w' => e = .returned (.bool true) ∧ w = w' := by
  go_enter Trym.func12, Trym.ntmps12
  go_wp2
  go_ret
  exact ⟨rfl, rfl⟩
theorem zz12_no (a b : ByteArray) (w : World) (ha : a.size ≤ 9223372036854775807) (hb : b.size ≤ 9223372036854775807) (h : ¬ a.size + b.size ≤ 1048576) :
    Calls Trym.prog 12 #[.string a, .string b] w fun e w' => e = .returned (.bool false) ∧ w = w' := by
  by_cases h1 : 1048576 < a.size
  · go_enter Trym.func12, Trym.ntmps12
    go_wp2
    go_ret
    exact ⟨rfl, rfl⟩
  · by_cases h2 : 1048576 < b.size
    · go_enter Trym.func12, Trym.ntmps12
      go_wp2
      go_ret
      exact ⟨rfl, rfl⟩
    · go_enter Trym.func12, Trym.ntmps12
      go_wp2
      go_ret
      exact ⟨rfl, rfl⟩

theorem below_none {W w w' : World} {B : Nat} (h : Below B W w) (hg : w.grownBy w' none) (hB : B ≤ w.heap.size) : Below B W w' := h.grown hg hB (fun k hk => by cases hk)

set_option maxHeartbeats 800000 in
theorem walk (a0 : ByteArray) (a1 : ByteArray) (w0 : a0.size ≤ maxLen) (w1 : a1.size ≤ maxLen) (w : World) :
    Calls Trym.prog 5 #[.string a0, .string a1] w fun e w' => e = .returned (.bool true) ∧ Below w.heap.size w w' := by
  unfold maxLen at w0 w1
  by_cases hb : a0.size + a1.size ≤ 1048576
  · by_cases h1 : 524288 < a0.size
    · go_enter Trym.func5, Trym.ntmps5
      go_wp2_with (go_at_call 12; refine (zz12_yes a0 a1 w hb).mono ?_; rintro e w' ⟨rfl, rfl⟩)
      go_ret
      exact ⟨rfl, Below.refl _ _⟩
    by_cases h2 : 524288 < a1.size
    · go_enter Trym.func5, Trym.ntmps5
      go_wp2_with (go_at_call 12; refine (zz12_yes a0 a1 w hb).mono ?_; rintro e w' ⟨rfl, rfl⟩)
      go_ret
      exact ⟨rfl, Below.refl _ _⟩
    cases heq : (a0.toList == a1.toList) with
    | true =>
      go_enter Trym.func5, Trym.ntmps5
      go_wp2_with (go_at_call 12; refine (zz12_yes a0 a1 w hb).mono ?_; rintro e w' ⟨rfl, rfl⟩)
      go_ret
      exact ⟨rfl, Below.refl _ _⟩
    | false =>
      have hne : (enc a0.data.toList == enc a1.data.toList) = false := by
        rw [beq_eq_false_iff_ne] at heq ⊢
        intro e
        exact heq (by rw [ByteArray.toList_eq, ByteArray.toList_eq]; exact enc_inj e)
      go_enter Trym.func5, Trym.ntmps5
      go_wp2_with (go_at_call 12; refine (zz12_yes a0 a1 w hb).mono ?_; rintro e w' ⟨rfl, rfl⟩)
      refine (zzEncode_any a0 w (by omega)).mono ?_
      rintro e w1 ⟨rfl, hg1⟩
      go_wp2_with fail
      refine (zzEncode_any a1 w1 (by omega)).mono ?_
      rintro e w2 ⟨rfl, hg2⟩
      go_wp2_with fail
      go_ret
      exact ⟨rfl, below_none (below_none (Below.refl _ _) hg1 (Nat.le_refl _)) hg2 hg1.size⟩
  · go_enter Trym.func5, Trym.ntmps5
    go_wp2_with (go_at_call 12; refine (zz12_no a0 a1 w w0 w1 hb).mono ?_; rintro e w' ⟨rfl, rfl⟩)
    go_ret
    exact ⟨rfl, Below.refl _ _⟩

/-! ### THE ROW's STEP: WRITTEN OUT: LEAVE IT -/
set_option maxRecDepth 100000 in
theorem lifted (os : Os) (started : os.Started) (H : Type) (enc : TypeId × Value → H) :
    ReturnsInHanded {} Trym.checked os 5 .any (Rows.fnPercentEncodeIsInjectiveSpec.pre6 enc Trym.prog Trym.f5 Rows.fnPercentEncodeIsInjectiveRow.domain false) (Rows.fnPercentEncodeIsInjectiveSpec.post enc Trym.prog Trym.f5 false true false false) := by
  refine returnsInHanded_of_change (C := Trym.checked) own started (by kernel_rfl) Trym.func5
    (ChangeSpec.witness6 (enc := enc) (C := Trym.checked) false ⟨#[], #[.string ByteArray.empty, .string ByteArray.empty], []⟩ 8 (by kernel_rfl) (by kernel_rfl) (by kernel_rfl) (by kernel_rfl)) ?_
  intro W base args ds gs before hval0 hW hcnd _
  have hval : ∀ (j : Nat) t v, Trym.f5.params[j]? = some t → args[j]? = some v → Value.okWide Trym.prog W .any base t v := hval0
  have hW' := hW
  obtain ⟨p, q, hA0, hV, rfl, hfz, hnd⟩ := hW
  have hA : DataW.TrodAll enc Trym.prog W 0 (fun _ => true) true Trym.f5.params.toList args.toList ds p := hA0
  rw [Trym.params5] at hA hval
  obtain ⟨v0, vs0, d0, ds0, p0, q0, hargs, rfl, rfl, h0, r0⟩ := trodAll_cons hA
  obtain ⟨v1, vs1, d1, ds1, p1, q1, rfl, rfl, rfl, h1, r1⟩ := trodAll_cons r0
  obtain ⟨rfl, rfl, rfl⟩ := trodAll_nil r1
  obtain rfl : args = #[v0, v1] := by cases args; simp_all
  obtain ⟨rfl, rfl⟩ := trodVars_none hV
  obtain ⟨a0, rfl, rfl, rfl, w0⟩ := open_string Trym.underlying9 (hval 0 9 v0 rfl rfl) h0
  obtain ⟨a1, rfl, rfl, rfl, w1⟩ := open_string Trym.underlying9 (hval 1 9 v1 rfl rfl) h1
  clear hA0 hval0
  refine (walk a0 a1 w0 w1 W).mono fun e W' ⟨he, hg⟩ => ?_
  subst he
  exact ⟨_, rfl, _, _, _, [], _, [], hW', trodAll_mk1 (shut_bool Trym.underlying4 _), (trodAll_cons_mk (shut_string Trym.underlying9 w0) (trodAll_cons_mk (shut_string Trym.underlying9 w1) trodAll_mk0)), rfl, hg.frame _, fun h => by cases h⟩

theorem over : Rows.fnPercentEncodeIsInjectiveRow.holds Trym.pinned (OpenSpec.ofChange Rows.fnPercentEncodeIsInjectiveSpec) :=
  OpenClaim.holds_of_wide 5 Trym.f5 rfl rfl rfl rfl rfl rfl rfl ⟨rfl, rfl, rfl, rfl, rfl⟩ rfl rfl rfl rfl rfl (by kernel_rfl) Trym.func5 (by kernel_rfl)
    (of_decide_eq_true (by kernel_rfl)) (by unfold Func.isWrapper; first | (rw [if_pos (by decide +kernel)]; kernel_rfl) | (rw [if_neg (by decide +kernel)]; exact ⟨rfl, rfl⟩))
    (fun os started H enc _ => lifted os started H enc)

/-- ████ THE STATEMENT ████ -/
theorem proved : Rows.FnPercentEncodeIsInjectiveSaid :=
  over
end Go.Proofs.Qxb6600255aMods.fnPercentEncodeIsInjective
