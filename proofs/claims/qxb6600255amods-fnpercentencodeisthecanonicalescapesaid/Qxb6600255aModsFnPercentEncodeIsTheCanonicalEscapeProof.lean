/-
  THE PROOF OF 'Rows.FnPercentEncodeIsTheCanonicalEscapeSaid': the frame after the kit's shell; the walk is ours.
-/
import Derived.Test.Qxb6600255aModsRows
import Derived.Test.Qxb6600255aModsCanon
import Derived.WalkKit
import Derived.ProofKit
import Derived.OpenShut
import Derived.ShutString
import Derived.ChangeOld
import Derived.Below
namespace Go.Proofs.Qxb6600255aMods.fnPercentEncodeIsTheCanonicalEscape
open Go.ChangeShapes Go.WideShapes Go.ChangeAt Go.RowKit
open Go.ChangeMaps (open_string shut_string)
open Enc
set_option linter.unusedVariables false

theorem own : ownKnob Trym.prog.godebug = none := by kernel_rfl

/-! ### The bound on total length (8) -/
theorem zz8_yes (a : ByteArray) (w : World) (h : a.size ≤ 1048576) :
    Calls Trym.prog 8 #[.string a] w fun e w' => e = .returned (.bool true) ∧ w = w' := by
  go_enter Trym.func8, Trym.ntmps8
  go_wp2
  go_ret
  exact ⟨rfl, rfl⟩
theorem zz8_no (a : ByteArray) (w : World) (h : ¬ a.size ≤ 1048576) :
    Calls Trym.prog 8 #[.string a] w fun e w' => e = .returned (.bool false) ∧ w = w' := by
  go_enter Trym.func8, Trym.ntmps8
  go_wp2
  go_ret
  exact ⟨rfl, rfl⟩

theorem below_none {W w w' : World} {B : Nat} (h : Below B W w) (hg : w.grownBy w' none) (hB : B ≤ w.heap.size) : Below B W w' := h.grown hg hB (fun k hk => by cases hk)

set_option maxHeartbeats 800000 in
theorem walk (a0 : ByteArray) (w0 : a0.size ≤ maxLen) (w : World) :
    Calls Trym.prog 3 #[.string a0] w fun e w' => e = .returned (.bool true) ∧ Below w.heap.size w w' := by
  by_cases hb : a0.size ≤ 1048576
  · go_enter Trym.func3, Trym.ntmps3
    go_wp2_with (go_at_call 8; refine (zz8_yes a0 w hb).mono ?_; rintro e w' ⟨rfl, rfl⟩)
    refine (zzEncode_any a0 w hb).mono ?_
    rintro e w1 ⟨rfl, hg1⟩
    go_wp2_with fail
    refine (canon_any a0 ⟨(enc a0.data.toList).toArray⟩ w1 hb rfl).mono ?_
    rintro e w2 ⟨rfl, rfl⟩
    go_wp2_with fail
    go_ret
    exact ⟨rfl, below_none (Below.refl _ _) hg1 (Nat.le_refl _)⟩
  · go_enter Trym.func3, Trym.ntmps3
    go_wp2_with (go_at_call 8; refine (zz8_no a0 w hb).mono ?_; rintro e w' ⟨rfl, rfl⟩)
    go_ret
    exact ⟨rfl, Below.refl _ _⟩

/-! ### THE ROW's STEP: WRITTEN OUT: LEAVE IT -/
set_option maxRecDepth 100000 in
theorem lifted (os : Os) (started : os.Started) (H : Type) (enc : TypeId × Value → H) :
    ReturnsInHanded {} Trym.checked os 3 .any (Rows.fnPercentEncodeIsTheCanonicalEscapeSpec.pre6 enc Trym.prog Trym.f3 Rows.fnPercentEncodeIsTheCanonicalEscapeRow.domain false) (Rows.fnPercentEncodeIsTheCanonicalEscapeSpec.post enc Trym.prog Trym.f3 false true false false) := by
  refine returnsInHanded_of_change (C := Trym.checked) own started (by kernel_rfl) Trym.func3
    (ChangeSpec.witness6 (enc := enc) (C := Trym.checked) false ⟨#[], #[.string ByteArray.empty], []⟩ 8 (by kernel_rfl) (by kernel_rfl) (by kernel_rfl) (by kernel_rfl)) ?_
  intro W base args ds gs before hval0 hW hcnd _
  have hval : ∀ (j : Nat) t v, Trym.f3.params[j]? = some t → args[j]? = some v → Value.okWide Trym.prog W .any base t v := hval0
  have hW' := hW
  obtain ⟨p, q, hA0, hV, rfl, hfz, hnd⟩ := hW
  have hA : DataW.TrodAll enc Trym.prog W 0 (fun _ => true) true Trym.f3.params.toList args.toList ds p := hA0
  rw [Trym.params3] at hA hval
  obtain ⟨v0, vs0, d0, ds0, p0, q0, hargs, rfl, rfl, h0, r0⟩ := trodAll_cons hA
  obtain ⟨rfl, rfl, rfl⟩ := trodAll_nil r0
  obtain rfl : args = #[v0] := by cases args; simp_all
  obtain ⟨rfl, rfl⟩ := trodVars_none hV
  obtain ⟨a0, rfl, rfl, rfl, w0⟩ := open_string Trym.underlying9 (hval 0 9 v0 rfl rfl) h0
  clear hA0 hval0
  refine (walk a0 w0 W).mono fun e W' ⟨he, hg⟩ => ?_
  subst he
  exact ⟨_, rfl, _, _, _, [], _, [], hW', trodAll_mk1 (shut_bool Trym.underlying4 _), (trodAll_cons_mk (shut_string Trym.underlying9 w0) trodAll_mk0), rfl, hg.frame _, fun h => by cases h⟩

theorem over : Rows.fnPercentEncodeIsTheCanonicalEscapeRow.holds Trym.pinned (OpenSpec.ofChange Rows.fnPercentEncodeIsTheCanonicalEscapeSpec) :=
  OpenClaim.holds_of_wide 3 Trym.f3 rfl rfl rfl rfl rfl rfl rfl ⟨rfl, rfl, rfl, rfl, rfl⟩ rfl rfl rfl rfl rfl (by kernel_rfl) Trym.func3 (by kernel_rfl)
    (of_decide_eq_true (by kernel_rfl)) (by unfold Func.isWrapper; first | (rw [if_pos (by decide +kernel)]; kernel_rfl) | (rw [if_neg (by decide +kernel)]; exact ⟨rfl, rfl⟩))
    (fun os started H enc _ => lifted os started H enc)

/-- ████ THE STATEMENT ████ -/
theorem proved : Rows.FnPercentEncodeIsTheCanonicalEscapeSaid :=
  over
end Go.Proofs.Qxb6600255aMods.fnPercentEncodeIsTheCanonicalEscape
