/-
  THE WALK OF fieldRank (20), ITS FRONT ZZfieldRank (14), strings.HasPrefix (23) AT A PREFIX OF FIVE BYTES.
-/
import Derived.Test.Qxb6600255aModsProg
import Derived.WalkKit
import Derived.WalkSpells
import Derived.WalkSmall
import Derived.Lib.Strings
import Derived.KernelRfl
namespace Go.Proofs.Qxb6600255aMods
open Go.RowKit

theorem ret_boolR {a b : Bool} (h : a = b) : Ending.returned (.bool a) = .returned (.bool b) := by rw [h]
theorem ret_intR {a b : Int} (h : a = b) : Ending.returned (.int .i64 a) = .returned (.int .i64 b) := by rw [h]

/-- Does the text begin with grpc and a dash? -/
def pre (l : List UInt8) : Bool := l.take 5 == [103, 114, 112, 99, 45]

theorem pre_short {l : List UInt8} (h : l.length < 5) : pre l = false := by
  unfold pre
  rw [beq_eq_false_iff_ne]
  intro e
  have := congrArg List.length e
  rw [List.length_take] at this
  simp only [List.length_cons, List.length_nil] at this
  omega

theorem hasPrefix_any (s : ByteArray) (w : World) (hs : s.size ≤ 9223372036854775807) :
    Calls Trym.prog 23 #[.string s, .string ⟨#[103, 114, 112, 99, 45]⟩] w fun e w' => e = .returned (.bool (pre s.toList)) ∧ w = w' := by
  by_cases h5 : 5 ≤ s.size
  · have h5' : (5 : Int) ≤ (s.size : Int) := by omega
    go_enter Trym.func23, Trym.ntmps23
    go_wp2
    go_ret
    exact ⟨ret_boolR (by rw [Lib.extract_toList, ByteArray.toList_eq]; rfl), rfl⟩
  · have h5' : decide ((5 : Int) ≤ (s.size : Int)) = false := decide_eq_false (by omega)
    go_enter Trym.func23, Trym.ntmps23
    go_wp2
    go_ret
    exact ⟨ret_boolR (by rw [pre_short]; rw [ByteArray.toList_eq]; simp; omega), rfl⟩

/-- Where a field's name goes. -/
def rank (l : List UInt8) : Int :=
  if (l == [103, 114, 112, 99, 45, 116, 105, 109, 101, 111, 117, 116]) = true then 0
  else if (l == [116, 101]) = true then 1
  else if (l == [99, 111, 110, 116, 101, 110, 116, 45, 116, 121, 112, 101]) = true then 2
  else if pre l = true then 3
  else if (l == [117, 115, 101, 114, 45, 97, 103, 101, 110, 116]) = true then 4
  else 5

set_option maxHeartbeats 800000 in
theorem rank_any (s : ByteArray) (w : World) (hs : s.size ≤ 9223372036854775807) :
    Calls Trym.prog 20 #[.string s] w fun e w' => e = .returned (.int .i64 (rank s.toList)) ∧ w = w' := by
  cases h1 : (s.toList == [103, 114, 112, 99, 45, 116, 105, 109, 101, 111, 117, 116]) with
  | true =>
    have HR : Hid (rank s.toList = 0) := by unfold Hid rank; rw [if_pos h1]
    go_enter Trym.func20, Trym.ntmps20
    go_wp2
    go_ret
    exact ⟨ret_intR HR.out.symm, rfl⟩
  | false =>
    cases h2 : (s.toList == [116, 101]) with
    | true =>
      have HR : Hid (rank s.toList = 1) := by unfold Hid rank; rw [if_neg (by simp [h1]), if_pos h2]
      go_enter Trym.func20, Trym.ntmps20
      go_wp2
      go_ret
      exact ⟨ret_intR HR.out.symm, rfl⟩
    | false =>
      cases h3 : (s.toList == [99, 111, 110, 116, 101, 110, 116, 45, 116, 121, 112, 101]) with
      | true =>
        have HR : Hid (rank s.toList = 2) := by unfold Hid rank; rw [if_neg (by simp [h1]), if_neg (by simp [h2]), if_pos h3]
        go_enter Trym.func20, Trym.ntmps20
        go_wp2
        go_ret
        exact ⟨ret_intR HR.out.symm, rfl⟩
      | false =>
        cases h4 : pre s.toList with
        | true =>
          have HR : Hid (rank s.toList = 3) := by unfold Hid rank; rw [if_neg (by simp [h1]), if_neg (by simp [h2]), if_neg (by simp [h3]), if_pos h4]
          go_enter Trym.func20, Trym.ntmps20
          go_wp2_with (go_at_call 23; refine (hasPrefix_any s w hs).mono ?_; rintro e w' ⟨rfl, rfl⟩)
          go_ret
          exact ⟨ret_intR HR.out.symm, rfl⟩
        | false =>
          cases h5 : (s.toList == [117, 115, 101, 114, 45, 97, 103, 101, 110, 116]) with
          | true =>
            have HR : Hid (rank s.toList = 4) := by unfold Hid rank; rw [if_neg (by simp [h1]), if_neg (by simp [h2]), if_neg (by simp [h3]), if_neg (by simp [h4]), if_pos h5]
            go_enter Trym.func20, Trym.ntmps20
            go_wp2_with (go_at_call 23; refine (hasPrefix_any s w hs).mono ?_; rintro e w' ⟨rfl, rfl⟩)
            go_ret
            exact ⟨ret_intR HR.out.symm, rfl⟩
          | false =>
            have HR : Hid (rank s.toList = 5) := by unfold Hid rank; rw [if_neg (by simp [h1]), if_neg (by simp [h2]), if_neg (by simp [h3]), if_neg (by simp [h4]), if_neg (by simp [h5])]
            go_enter Trym.func20, Trym.ntmps20
            go_wp2_with (go_at_call 23; refine (hasPrefix_any s w hs).mono ?_; rintro e w' ⟨rfl, rfl⟩)
            go_ret
            exact ⟨ret_intR HR.out.symm, rfl⟩

theorem zzRank_any (s : ByteArray) (w : World) (hs : s.size ≤ 9223372036854775807) :
    Calls Trym.prog 14 #[.string s] w fun e w' => e = .returned (.int .i64 (rank s.toList)) ∧ w = w' := by
  go_enter Trym.func14, Trym.ntmps14
  go_wp2_with (go_at_call 20; refine (rank_any s w hs).mono ?_; rintro e w' ⟨rfl, rfl⟩)
  go_ret
  exact ⟨rfl, rfl⟩
end Go.Proofs.Qxb6600255aMods
