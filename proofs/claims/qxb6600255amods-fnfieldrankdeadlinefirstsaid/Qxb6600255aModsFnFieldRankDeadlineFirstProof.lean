/-
  THE PROOF OF 'Rows.FnFieldRankDeadlineFirstSaid': the frame after the kit's shell; the walk is ours.
-/
import Derived.Test.Qxb6600255aModsRows
import Derived.Test.Qxb6600255aModsRank
import Derived.WalkKit
import Derived.ProofKit
import Derived.OpenShut
import Derived.ShutString
import Derived.ChangeOld
import Derived.Below
namespace Go.Proofs.Qxb6600255aMods.fnFieldRankDeadlineFirst
open Go.ChangeShapes Go.WideShapes Go.ChangeAt Go.RowKit
open Go.ChangeMaps (open_string shut_string)
set_option linter.unusedVariables false

theorem own : ownKnob Trym.prog.godebug = none := by kernel_rfl

/-! ### The bound on total length (13) -/
theorem zz13_yes (a : ByteArray) (w : World) (h : a.size ≤ 1048576) :
    Calls Trym.prog 13 #[.string a] w fun e w' => e = .returned (.bool true) ∧ w = w' := by
  go_enter Trym.func13, Trym.ntmps13
  go_wp2
  go_ret
  exact ⟨rfl, rfl⟩
theorem zz13_no (a : ByteArray) (w : World) (h : ¬ a.size ≤ 1048576) :
    Calls Trym.prog 13 #[.string a] w fun e w' => e = .returned (.bool false) ∧ w = w' := by
  go_enter Trym.func13, Trym.ntmps13
  go_wp2
  go_ret
  exact ⟨rfl, rfl⟩

theorem rank_deadline : rank (⟨#[103, 114, 112, 99, 45, 116, 105, 109, 101, 111, 117, 116]⟩ : ByteArray).toList = 0 := by
  rw [ByteArray.toList_eq]; rfl
theorem rank_pos {l : List UInt8} (h : (l == [103, 114, 112, 99, 45, 116, 105, 109, 101, 111, 117, 116]) = false) : 0 < rank l := by
  unfold rank
  rw [if_neg (by simp [h])]
  repeat' split
  all_goals omega

set_option maxHeartbeats 800000 in
theorem walk (a0 : ByteArray) (w0 : a0.size ≤ maxLen) (w : World) :
    Calls Trym.prog 6 #[.string a0] w fun e w' => e = .returned (.bool true) ∧ Grown w w' := by
  by_cases hb : a0.size ≤ 1048576
  · cases heq : (a0.toList == [103, 114, 112, 99, 45, 116, 105, 109, 101, 111, 117, 116]) with
    | true =>
      go_enter Trym.func6, Trym.ntmps6
      go_wp2_with (go_at_call 13; refine (zz13_yes a0 w hb).mono ?_; rintro e w' ⟨rfl, rfl⟩)
      go_ret
      exact ⟨rfl, Grown.refl _⟩
    | false =>
      have hp := rank_pos heq
      go_enter Trym.func6, Trym.ntmps6
      go_wp2_with (go_at_call 13; refine (zz13_yes a0 w hb).mono ?_; rintro e w' ⟨rfl, rfl⟩)
      have h1 := zzRank_any ⟨#[103, 114, 112, 99, 45, 116, 105, 109, 101, 111, 117, 116]⟩ w (by decide)
      rw [rank_deadline] at h1
      refine h1.mono ?_
      clear h1
      rintro e w' ⟨rfl, rfl⟩
      go_wp2_with fail
      refine (zzRank_any a0 w (by omega)).mono ?_
      rintro e w' ⟨rfl, rfl⟩
      go_wp2_with fail
      go_ret
      exact ⟨rfl, Grown.refl _⟩
  · go_enter Trym.func6, Trym.ntmps6
    go_wp2_with (go_at_call 13; refine (zz13_no a0 w hb).mono ?_; rintro e w' ⟨rfl, rfl⟩)
    go_ret
    exact ⟨rfl, Grown.refl _⟩

/-! ### THE ROW's STEP: WRITTEN OUT: LEAVE IT -/
set_option maxRecDepth 100000 in
theorem lifted (os : Os) (started : os.Started) (H : Type) (enc : TypeId × Value → H) :
    ReturnsInHanded {} Trym.checked os 6 .any (Rows.fnFieldRankDeadlineFirstSpec.pre6 enc Trym.prog Trym.f6 Rows.fnFieldRankDeadlineFirstRow.domain false) (Rows.fnFieldRankDeadlineFirstSpec.post enc Trym.prog Trym.f6 false true false false) := by
  refine returnsInHanded_of_change (C := Trym.checked) own started (by kernel_rfl) Trym.func6
    (ChangeSpec.witness6 (enc := enc) (C := Trym.checked) false ⟨#[], #[.string ByteArray.empty], []⟩ 8 (by kernel_rfl) (by kernel_rfl) (by kernel_rfl) (by kernel_rfl)) ?_
  intro W base args ds gs before hval0 hW hcnd _
  have hval : ∀ (j : Nat) t v, Trym.f6.params[j]? = some t → args[j]? = some v → Value.okWide Trym.prog W .any base t v := hval0
  have hW' := hW
  obtain ⟨p, q, hA0, hV, rfl, hfz, hnd⟩ := hW
  have hA : DataW.TrodAll enc Trym.prog W 0 (fun _ => true) true Trym.f6.params.toList args.toList ds p := hA0
  rw [Trym.params6] at hA hval
  obtain ⟨v0, vs0, d0, ds0, p0, q0, hargs, rfl, rfl, h0, r0⟩ := trodAll_cons hA
  obtain ⟨rfl, rfl, rfl⟩ := trodAll_nil r0
  obtain rfl : args = #[v0] := by cases args; simp_all
  obtain ⟨rfl, rfl⟩ := trodVars_none hV
  obtain ⟨a0, rfl, rfl, rfl, w0⟩ := open_string Trym.underlying9 (hval 0 9 v0 rfl rfl) h0
  clear hA0 hval0
  simp only [List.append_nil] at hW'
  refine (walk a0 w0 W).mono fun e W' ⟨he, hg⟩ => ?_
  subst he
  exact ⟨_, rfl, post_of_same (pa := []) (pv := []) hW' (fun _ _ _ => (trodAll_cons_mk (shut_bool Trym.underlying4 _) trodAll_mk0)) (fun sp _ => (trodAll_cons_mk (shut_string Trym.underlying9 w0) trodAll_mk0)) (fun _ _ => rfl) rfl
    (hg.frame _) hg.2.1 (ok_one (by kernel_rfl) rfl (okWide_bool_mk Trym.underlying4 _))⟩

theorem over : Rows.fnFieldRankDeadlineFirstRow.holds Trym.pinned (OpenSpec.ofChange Rows.fnFieldRankDeadlineFirstSpec) :=
  OpenClaim.holds_of_wide 6 Trym.f6 rfl rfl rfl rfl rfl rfl rfl ⟨rfl, rfl, rfl, rfl, rfl⟩ rfl rfl rfl rfl rfl (by kernel_rfl) Trym.func6 (by kernel_rfl)
    (of_decide_eq_true (by kernel_rfl)) (by unfold Func.isWrapper; first | (rw [if_pos (by decide +kernel)]; kernel_rfl) | (rw [if_neg (by decide +kernel)]; exact ⟨rfl, rfl⟩))
    (fun os started H enc _ => lifted os started H enc)

/-- ████ THE STATEMENT ████ -/
theorem proved : Rows.FnFieldRankDeadlineFirstSaid :=
  over
end Go.Proofs.Qxb6600255aMods.fnFieldRankDeadlineFirst
