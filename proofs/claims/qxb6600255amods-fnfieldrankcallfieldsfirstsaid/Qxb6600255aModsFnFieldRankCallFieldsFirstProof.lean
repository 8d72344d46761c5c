/-
  THE PROOF OF 'Rows.FnFieldRankCallFieldsFirstSaid': the frame after the kit's shell; the walk is ours.
-/
import Derived.Test.Qxb6600255aModsRows
import Derived.Test.Qxb6600255aModsRank
import Derived.WalkKit
import Derived.ProofKit
import Derived.OpenShut
import Derived.ShutString
import Derived.ChangeOld
import Derived.Below
import Derived.Deep.QuietTactic
import Derived.BigQuiet
namespace Go.Proofs.Qxb6600255aMods.fnFieldRankCallFieldsFirst
open Go.ChangeShapes Go.WideShapes Go.ChangeAt Go.RowKit
open Go.ChangeMaps (open_string shut_string)
set_option linter.unusedVariables false

theorem own : ownKnob Trym.prog.godebug = none := by kernel_rfl

/-! ### The bound on total length (15) -/
theorem zz15_yes (a b : ByteArray) (w : World) (h : a.size + b.size ≤ 1048576) :
    Calls Trym.prog 15 #[.string a, .string b] w fun e w' => e = .returned (.bool true) ∧ w = w' := by
  go_enter Trym.func15, Trym.ntmps15
  go_wp2
  go_ret
  exact ⟨rfl, rfl⟩
theorem zz15_no (a b : ByteArray) (w : World) (ha : a.size ≤ 9223372036854775807) (hb : b.size ≤ 9223372036854775807) (h : ¬ a.size + b.size ≤ 1048576) :
    Calls Trym.prog 15 #[.string a, .string b] w fun e w' => e = .returned (.bool false) ∧ w = w' := by
  by_cases h1 : 1048576 < a.size
  · go_enter Trym.func15, Trym.ntmps15
    go_wp2
    go_ret
    exact ⟨rfl, rfl⟩
  · by_cases h2 : 1048576 < b.size
    · go_enter Trym.func15, Trym.ntmps15
      go_wp2
      go_ret
      exact ⟨rfl, rfl⟩
    · go_enter Trym.func15, Trym.ntmps15
      go_wp2
      go_ret
      exact ⟨rfl, rfl⟩

/-! ### rankRootB1HasGrpcPrefix (21): the loop over five bytes -/
def gr5 : List UInt8 := [103, 114, 112, 99, 45]
def gat (k : Nat) : Nat := (gr5.getD k 0).toNat
theorem gat_all : ∀ j : Fin 5, ((⟨#[103, 114, 112, 99, 45]⟩ : ByteArray)[j.val]'j.isLt).toNat = gat j.val := by decide
theorem gat_at {j : Nat} (h : j < 5) : ∀ h', ((⟨#[103, 114, 112, 99, 45]⟩ : ByteArray)[j]'h').toNat = gat j := fun _ => gat_all ⟨j, h⟩
theorem take_step {s : ByteArray} {k : Nat} (h : k < s.size) (h5 : k < 5) (hi : s.data.toList.take k = gr5.take k) (he : s[k].toNat = gat k) : s.data.toList.take (k + 1) = gr5.take (k + 1) := by
  have hl : k < gr5.length := h5
  have hl' : k < s.data.toList.length := by simpa using h
  rw [List.take_succ_eq_append_getElem hl', List.take_succ_eq_append_getElem hl, hi]
  congr 2
  apply UInt8.toNat_inj.1
  have e1 : gat k = (gr5[k]'hl).toNat := by unfold gat; rw [List.getD_eq_getElem?_getD, List.getElem?_eq_getElem hl]; rfl
  rw [← e1, ← he]; rfl
theorem pre_yes {s : ByteArray} (hi : s.data.toList.take 5 = gr5.take 5) : pre s.toList = true := by
  unfold pre
  rw [ByteArray.toList_eq, hi]; rfl
theorem pre_no {s : ByteArray} {k : Nat} (h : k < s.size) (h5 : k < 5) (he : ¬ s[k].toNat = gat k) : pre s.toList = false := by
  unfold pre
  rw [ByteArray.toList_eq, beq_eq_false_iff_ne]
  intro e
  apply he
  have hl : k < gr5.length := h5
  have hl' : k < s.data.toList.length := by simpa using h
  have e2 : (s.data.toList.take 5)[k]? = gr5[k]? := by rw [e]; rfl
  rw [List.getElem?_take, if_pos h5, List.getElem?_eq_getElem hl', List.getElem?_eq_getElem hl] at e2
  have e3 : s.data.toList[k] = gr5[k] := by simpa using e2
  have e1 : gat k = (gr5[k]'hl).toNat := by unfold gat; rw [List.getD_eq_getElem?_getD, List.getElem?_eq_getElem hl]; rfl
  rw [e1, ← e3]; rfl

set_option maxHeartbeats 800000 in
theorem grpcPrefix_any (s : ByteArray) (w : World) (hs : s.size ≤ 9223372036854775807) :
    Calls Trym.prog 21 #[.string s] w fun e w' => ∃ q, e = .returned (.bool (pre s.toList)) ∧ w' = w.drewN q := by
  by_cases h5 : s.size < 5
  · have HP : Hid (pre s.toList = false) := pre_short (by rw [ByteArray.toList_eq]; simpa using h5)
    go_enter Trym.func21, Trym.ntmps21
    go_wp2
    go_ret
    exact ⟨0, ret_boolR HP.out.symm, rfl⟩
  · go_enter Trym.func21, Trym.ntmps21
    go_wp2
    go_loopw [3] (fun i wr => ∃ k q : Nat, k ≤ 5 ∧ i = .int .i64 k ∧ wr = w.drewN q ∧ Hid (s.data.toList.take k = gr5.take k)) (fun i _ => 5 - (intOf i).toNat)
    case atStart => exact ⟨0, 0, by omega, rfl, rfl, rfl⟩
    case round =>
      obtain ⟨k, q, hk, rfl, rfl, HI⟩ := hrel
      by_cases hlt : k < 5
      · have hks : k < s.size := by omega
        have i1 : (k : Int) < (s.size : Int) := by omega
        have i2 : (k : Int) < 5 := by omega
        have vG := gat_at hlt
        by_cases he : s[k].toNat = gat k
        · have HN : Hid (s.data.toList.take (k + 1) = gr5.take (k + 1)) := take_step hks hlt HI.out he
          have hb : ((s[k].toNat : Int) != (gat k : Int)) = false := by simp; omega
          clear he
          go_wp2
          go_quiet (fail)
          go_wp2
          go_roundw
          case rel => exact ⟨k + 1, _, hlt, by go_num, rfl, HN.out⟩
          case measure => simp [intOf]; omega
        · have HP : Hid (pre s.toList = false) := pre_no hks hlt he
          have hb : ((s[k].toNat : Int) != (gat k : Int)) = true := by simp; omega
          clear he
          go_wp2
          go_quiet (fail)
          go_wp2
          go_ret
          exact ⟨q + nq, ret_boolR HP.out.symm, by rw [World.drewN_drewN]⟩
      · obtain rfl : k = 5 := by omega
        have HP : Hid (pre s.toList = true) := pre_yes HI.out
        go_wp2
        go_ret
        exact ⟨_, ret_boolR HP.out.symm, rfl⟩

def callf (l : List UInt8) : Bool := pre l || l == [116, 101] || l == [99, 111, 110, 116, 101, 110, 116, 45, 116, 121, 112, 101]

set_option maxHeartbeats 800000 in
theorem callField_any (s : ByteArray) (w : World) (hs : s.size ≤ 9223372036854775807) :
    Calls Trym.prog 16 #[.string s] w fun e w' => ∃ q, e = .returned (.bool (callf s.toList)) ∧ w' = w.drewN q := by
  cases h1 : pre s.toList with
  | true =>
    have HC : Hid (callf s.toList = true) := by unfold Hid callf; rw [h1]; rfl
    go_enter Trym.func16, Trym.ntmps16
    go_wp2_with (go_at_call 21; refine (grpcPrefix_any s w hs).mono ?_; rintro e w' ⟨q, rfl, rfl⟩)
    go_ret
    exact ⟨_, ret_boolR HC.out.symm, rfl⟩
  | false =>
    cases h2 : (s.toList == [116, 101]) with
    | true =>
      have HC : Hid (callf s.toList = true) := by unfold Hid callf; rw [h1, h2]; rfl
      go_enter Trym.func16, Trym.ntmps16
      go_wp2_with (go_at_call 21; refine (grpcPrefix_any s w hs).mono ?_; rintro e w' ⟨q, rfl, rfl⟩)
      go_ret
      exact ⟨_, ret_boolR HC.out.symm, rfl⟩
    | false =>
      have HC : Hid (callf s.toList = (s.toList == [99, 111, 110, 116, 101, 110, 116, 45, 116, 121, 112, 101])) := by unfold Hid callf; rw [h1, h2]; rfl
      go_enter Trym.func16, Trym.ntmps16
      go_wp2_with (go_at_call 21; refine (grpcPrefix_any s w hs).mono ?_; rintro e w' ⟨q, rfl, rfl⟩)
      go_ret
      exact ⟨_, ret_boolR HC.out.symm, rfl⟩

theorem rank_call {l : List UInt8} (h : callf l = true) : rank l ≤ 3 := by
  unfold callf at h
  unfold rank
  split
  · omega
  · split
    · omega
    · split
      · omega
      · split
        · omega
        · rename_i h2 h3 h4
          simp [h2, h3, h4] at h
theorem rank_rest {l : List UInt8} (h : callf l = false) : 4 ≤ rank l := by
  unfold callf at h
  simp only [Bool.or_eq_false_iff] at h
  obtain ⟨⟨h1, h2⟩, h3⟩ := h
  unfold rank
  rw [if_neg, if_neg (by simp [h2]), if_neg (by simp [h3]), if_neg (by simp [h1])]
  · split <;> omega
  · intro e
    have : l = [103, 114, 112, 99, 45, 116, 105, 109, 101, 111, 117, 116] := by simpa using e
    rw [this] at h1
    exact absurd h1 (by decide)

set_option maxHeartbeats 800000 in
theorem walk (a0 : ByteArray) (a1 : ByteArray) (w0 : a0.size ≤ maxLen) (w1 : a1.size ≤ maxLen) (w : World) :
    Calls Trym.prog 7 #[.string a0, .string a1] w fun e w' => e = .returned (.bool true) ∧ Below w.heap.size w w' := by
  unfold maxLen at w0 w1
  by_cases hb : a0.size + a1.size ≤ 1048576
  · by_cases h1 : 524288 < a0.size
    · go_enter Trym.func7, Trym.ntmps7
      go_wp2_with (go_at_call 15; refine (zz15_yes a0 a1 w hb).mono ?_; rintro e w' ⟨rfl, rfl⟩)
      go_ret
      exact ⟨rfl, Below.refl _ _⟩
    by_cases h2 : 524288 < a1.size
    · go_enter Trym.func7, Trym.ntmps7
      go_wp2_with (go_at_call 15; refine (zz15_yes a0 a1 w hb).mono ?_; rintro e w' ⟨rfl, rfl⟩)
      go_ret
      exact ⟨rfl, Below.refl _ _⟩
    cases hc0 : callf a0.toList with
    | false =>
      go_enter Trym.func7, Trym.ntmps7
      go_wp2_with (go_at_call 15; refine (zz15_yes a0 a1 w hb).mono ?_; rintro e w' ⟨rfl, rfl⟩)
      refine (callField_any a0 w w0).mono ?_
      rintro e w' ⟨q, rfl, rfl⟩
      go_wp2_with fail
      go_ret
      exact ⟨rfl, below_drewN (Below.refl _ _) _⟩
    | true =>
      cases hc1 : callf a1.toList with
      | true =>
        go_enter Trym.func7, Trym.ntmps7
        go_wp2_with (go_at_call 15; refine (zz15_yes a0 a1 w hb).mono ?_; rintro e w' ⟨rfl, rfl⟩)
        refine (callField_any a0 w w0).mono ?_
        rintro e w' ⟨q, rfl, rfl⟩
        go_wp2_with fail
        refine (callField_any a1 _ w1).mono ?_
        rintro e w' ⟨q2, rfl, rfl⟩
        go_wp2_with fail
        go_ret
        exact ⟨rfl, below_drewN (Below.refl _ _) _⟩
      | false =>
        have hr0 := rank_call hc0
        have hr1 := rank_rest hc1
        have hlt : rank a0.toList < rank a1.toList := by omega
        go_enter Trym.func7, Trym.ntmps7
        go_wp2_with (go_at_call 15; refine (zz15_yes a0 a1 w hb).mono ?_; rintro e w' ⟨rfl, rfl⟩)
        refine (callField_any a0 w w0).mono ?_
        rintro e w' ⟨q, rfl, rfl⟩
        go_wp2_with fail
        refine (callField_any a1 _ w1).mono ?_
        rintro e w' ⟨q2, rfl, rfl⟩
        go_wp2_with fail
        refine (zzRank_any a0 _ w0).mono ?_
        rintro e w' ⟨rfl, rfl⟩
        go_wp2_with fail
        refine (zzRank_any a1 _ w1).mono ?_
        rintro e w' ⟨rfl, rfl⟩
        go_wp2_with fail
        go_ret
        exact ⟨rfl, below_drewN (Below.refl _ _) _⟩
  · go_enter Trym.func7, Trym.ntmps7
    go_wp2_with (go_at_call 15; refine (zz15_no a0 a1 w w0 w1 hb).mono ?_; rintro e w' ⟨rfl, rfl⟩)
    go_ret
    exact ⟨rfl, Below.refl _ _⟩

/-! ### THE ROW's STEP: WRITTEN OUT: LEAVE IT -/
set_option maxRecDepth 100000 in
theorem lifted (os : Os) (started : os.Started) (H : Type) (enc : TypeId × Value → H) :
    ReturnsInHanded {} Trym.checked os 7 .any (Rows.fnFieldRankCallFieldsFirstSpec.pre6 enc Trym.prog Trym.f7 Rows.fnFieldRankCallFieldsFirstRow.domain false) (Rows.fnFieldRankCallFieldsFirstSpec.post enc Trym.prog Trym.f7 false true false false) := by
  refine returnsInHanded_of_change (C := Trym.checked) own started (by kernel_rfl) Trym.func7
    (ChangeSpec.witness6 (enc := enc) (C := Trym.checked) false ⟨#[], #[.string ByteArray.empty, .string ByteArray.empty], []⟩ 8 (by kernel_rfl) (by kernel_rfl) (by kernel_rfl) (by kernel_rfl)) ?_
  intro W base args ds gs before hval0 hW hcnd _
  have hval : ∀ (j : Nat) t v, Trym.f7.params[j]? = some t → args[j]? = some v → Value.okWide Trym.prog W .any base t v := hval0
  have hW' := hW
  obtain ⟨p, q, hA0, hV, rfl, hfz, hnd⟩ := hW
  have hA : DataW.TrodAll enc Trym.prog W 0 (fun _ => true) true Trym.f7.params.toList args.toList ds p := hA0
  rw [Trym.params7] at hA hval
  obtain ⟨v0, vs0, d0, ds0, p0, q0, hargs, rfl, rfl, h0, r0⟩ := trodAll_cons hA
  obtain ⟨v1, vs1, d1, ds1, p1, q1, rfl, rfl, rfl, h1, r1⟩ := trodAll_cons r0
  obtain ⟨rfl, rfl, rfl⟩ := trodAll_nil r1
  obtain rfl : args = #[v0, v1] := by cases args; simp_all
  obtain ⟨rfl, rfl⟩ := trodVars_none hV
  obtain ⟨a0, rfl, rfl, rfl, w0⟩ := open_string Trym.underlying9 (hval 0 9 v0 rfl rfl) h0
  obtain ⟨a1, rfl, rfl, rfl, w1⟩ := open_string Trym.underlying9 (hval 1 9 v1 rfl rfl) h1
  clear hA0 hval0
  refine (walk a0 a1 w0 w1 W).mono fun e W' ⟨he, hg⟩ => ?_
  subst he
  exact ⟨_, rfl, _, _, _, [], _, [], hW', trodAll_mk1 (shut_bool Trym.underlying4 _), (trodAll_cons_mk (shut_string Trym.underlying9 w0) (trodAll_cons_mk (shut_string Trym.underlying9 w1) trodAll_mk0)), rfl, hg.frame _, fun h => by cases h⟩

theorem over : Rows.fnFieldRankCallFieldsFirstRow.holds Trym.pinned (OpenSpec.ofChange Rows.fnFieldRankCallFieldsFirstSpec) :=
  OpenClaim.holds_of_wide 7 Trym.f7 rfl rfl rfl rfl rfl rfl rfl ⟨rfl, rfl, rfl, rfl, rfl⟩ rfl rfl rfl rfl rfl (by kernel_rfl) Trym.func7 (by kernel_rfl)
    (of_decide_eq_true (by kernel_rfl)) (by unfold Func.isWrapper; first | (rw [if_pos (by decide +kernel)]; kernel_rfl) | (rw [if_neg (by decide +kernel)]; exact ⟨rfl, rfl⟩))
    (fun os started H enc _ => lifted os started H enc)

/-- ████ THE STATEMENT ████ -/
theorem proved : Rows.FnFieldRankCallFieldsFirstSaid :=
  over
end Go.Proofs.Qxb6600255aMods.fnFieldRankCallFieldsFirst
