/-
  THE WALKS OF THE SMALL FUNCTIONS THAT READ: rb1CsvSpecial (16), rb1CsvHasSpecial (12), rb1CloneBytes (9), rb1HasPrefixBytes (11), rb1EqualBytes (15).
-/
import Derived.Test.Qxb6000036aModsProg
import Derived.Test.Qxb6000036aModsMem
import Derived.Test.Qxb6000036aModsField
import Derived.Outline
import Derived.WalkSpells
import Derived.Deep.QuietTactic
import Derived.BigQuiet
import Derived.KernelRfl
namespace Go.Proofs.Qxb6000036aMods
open Go.RowKit Csv

/-- 'spc' of a byte's number. -/
def spcN (n : Nat) : Bool := decide (n = 44 ∨ n = 34 ∨ n = 13 ∨ n = 10)
theorem spcN_eq (c : UInt8) : spcN c.toNat = spc c := by
  rw [Bool.eq_iff_iff, spc_iff]; simp [spcN]
theorem spcN_true {n : Nat} (h : n = 44 ∨ n = 34 ∨ n = 13 ∨ n = 10) : spcN n = true := by simpa [spcN] using h
theorem spcN_false {n : Nat} (h : ¬ (n = 44 ∨ n = 34 ∨ n = 13 ∨ n = 10)) : spcN n = false := by simpa [spcN] using h

theorem ret_bool {a b : Bool} (h : a = b) : Ending.returned (.bool a) = .returned (.bool b) := by rw [h]

theorem special_any (n : Nat) (w : World) :
    Calls Trym.prog 16 #[.int .u8 (n : Int)] w fun e w' => e = .returned (.bool (spcN n)) ∧ w' = w := by
  by_cases h1 : ((n : Int) == 44) = true
  · go_enter Trym.func16, Trym.ntmps16
    go_wp2
    go_ret
    exact ⟨ret_bool (by rw [spcN_true (by simp at h1; omega)]), rfl⟩
  · replace h1 : ((n : Int) == 44) = false := by simpa using h1
    by_cases h2 : ((n : Int) == 34) = true
    · go_enter Trym.func16, Trym.ntmps16
      go_wp2
      go_ret
      exact ⟨ret_bool (by rw [spcN_true (by simp at h2; omega)]), rfl⟩
    · replace h2 : ((n : Int) == 34) = false := by simpa using h2
      by_cases h3 : ((n : Int) == 13) = true
      · go_enter Trym.func16, Trym.ntmps16
        go_wp2
        go_ret
        exact ⟨ret_bool (by rw [spcN_true (by simp at h3; omega)]), rfl⟩
      · replace h3 : ((n : Int) == 13) = false := by simpa using h3
        by_cases h4 : ((n : Int) == 10) = true
        · go_enter Trym.func16, Trym.ntmps16
          go_wp2
          go_ret
          exact ⟨ret_bool (by rw [spcN_true (by simp at h4; omega)]), rfl⟩
        · replace h4 : ((n : Int) == 10) = false := by simpa using h4
          go_enter Trym.func16, Trym.ntmps16
          go_wp2
          go_ret
          exact ⟨ret_bool (by rw [spcN_false (by simp at h1 h2 h3 h4; omega)]), rfl⟩

set_option maxHeartbeats 400000 in
theorem hasSpecial_any (s : ByteArray) (w : World) (hs : s.size ≤ 9223372036854775807) :
    Calls Trym.prog 12 #[.string s] w fun e w' => e = .returned (.bool (hasSpc s.data.toList)) ∧ w' = w := by
  go_enter Trym.func12, Trym.ntmps12
  go_wp2
  go_loop [3] (fun i => ∃ k : Nat, k ≤ s.size ∧ i = .int .i64 k ∧ hasSpc (s.data.toList.take k) = false) (fun i => s.size - (intOf i).toNat)
  case atStart => exact ⟨0, Nat.zero_le _, rfl, rfl⟩
  case round =>
    obtain ⟨k, hk, rfl, hns⟩ := hrel
    have HN : Hid (hasSpc (s.data.toList.take k) = false) := hns
    clear hns
    by_cases hlt : k < s.size
    · cases hsp : spcN s[k].toNat with
      | true =>
        have HT : Hid (hasSpc s.data.toList = true) := hasSpc_of s k hlt (by rw [← spcN_eq]; exact hsp)
        go_wp2_with (go_at_call 16; refine (special_any s[k].toNat w).mono ?_; rintro e w' ⟨rfl, rfl⟩)
        go_ret
        exact ⟨ret_bool HT.out.symm, rfl⟩
      | false =>
        have HT : Hid (hasSpc (s.data.toList.take (k + 1)) = false) := hasSpc_step s k hlt HN.out (by rw [← spcN_eq]; exact hsp)
        go_wp2_with (go_at_call 16; refine (special_any s[k].toNat w).mono ?_; rintro e w' ⟨rfl, rfl⟩)
        go_round
        case rel => exact ⟨k + 1, by omega, by go_num, HT.out⟩
        case measure => simp [intOf]; omega
    · have HT : Hid (hasSpc s.data.toList = false) := hasSpc_all s k hlt HN.out
      go_wp2
      go_ret
      exact ⟨ret_bool HT.out.symm, rfl⟩

/-- A slice of bytes, read. -/
abbrev RdB (w : World) (ao : Option Addr) (b off n : Nat) (l : List UInt8) : Prop := Rd w ao b off n (fun j => .int .u8 (bat l j))

set_option maxHeartbeats 400000 in
theorem hasPrefix_any (ao : Option Addr) (b off n cap : Nat) (l : List UInt8) (ao2 : Option Addr) (b2 off2 n2 cap2 : Nat) (l2 : List UInt8) (w : World)
    (hr : RdB w ao b off n l) (hr2 : RdB w ao2 b2 off2 n2 l2) (hn : n2 ≤ n) (hm : n ≤ 9223372036854775807) (heq : ∀ j, j < n2 → bat l j = bat l2 j) :
    Calls Trym.prog 11 #[.slice ao n cap, .slice ao2 n2 cap2] w fun e w' => ∃ q, e = .returned (.bool true) ∧ w' = w.drewN q := by
  have hlt0 : ¬ (n : Int) < (n2 : Int) := by omega
  go_enter Trym.func11, Trym.ntmps11
  go_wp2
  go_loopw [5] (fun i wr => ∃ k q : Nat, k ≤ n2 ∧ i = .int .i64 k ∧ wr = w.drewN q) (fun i _ => n2 - (intOf i).toNat)
  case atStart => exact ⟨0, 0, Nat.zero_le _, rfl, rfl⟩
  case round =>
    obtain ⟨k, q, hk, rfl, rfl⟩ := hrel
    by_cases hlt : k < n2
    · obtain rfl := hr.addr (by omega)
      obtain rfl := hr2.addr (by omega)
      have c1 : w.cell? ⟨b, off + k, none⟩ = some (.int .u8 (bat l k)) := hr.cell k (by omega)
      have c2 : w.cell? ⟨b2, off2 + k, none⟩ = some (.int .u8 (bat l k)) := by rw [heq k hlt]; exact hr2.cell k hlt
      have hlt' : (k : Int) < (n : Int) := by omega
      have hlt2 : (k : Int) < (n2 : Int) := by omega
      go_wp2
      go_quiet (fail)
      go_wp2
      go_roundw
      case rel => exact ⟨k + 1, _, by omega, by go_num, rfl⟩
      case measure => simp [intOf]; omega
    · go_wp2
      go_ret
      exact ⟨q, rfl, rfl⟩

set_option maxHeartbeats 400000 in
theorem equal_any (ao : Option Addr) (b off n cap : Nat) (l : List UInt8) (ao2 : Option Addr) (b2 off2 cap2 : Nat) (l2 : List UInt8) (w : World)
    (hr : RdB w ao b off n l) (hr2 : RdB w ao2 b2 off2 n l2) (hm : n ≤ 9223372036854775807) (heq : ∀ j, j < n → bat l j = bat l2 j) :
    Calls Trym.prog 15 #[.slice ao n cap, .slice ao2 n cap2] w fun e w' => ∃ q, e = .returned (.bool true) ∧ w' = w.drewN q := by
  go_enter Trym.func15, Trym.ntmps15
  go_wp2
  go_loopw [5] (fun i wr => ∃ k q : Nat, k ≤ n ∧ i = .int .i64 k ∧ wr = w.drewN q) (fun i _ => n - (intOf i).toNat)
  case atStart => exact ⟨0, 0, Nat.zero_le _, rfl, rfl⟩
  case round =>
    obtain ⟨k, q, hk, rfl, rfl⟩ := hrel
    by_cases hlt : k < n
    · obtain rfl := hr.addr (by omega)
      obtain rfl := hr2.addr (by omega)
      have c1 : w.cell? ⟨b, off + k, none⟩ = some (.int .u8 (bat l k)) := hr.cell k (by omega)
      have c2 : w.cell? ⟨b2, off2 + k, none⟩ = some (.int .u8 (bat l k)) := by rw [heq k hlt]; exact hr2.cell k hlt
      have hlt' : (k : Int) < (n : Int) := by omega
      go_wp2
      go_quiet (fail)
      go_wp2
      go_roundw
      case rel => exact ⟨k + 1, _, by omega, by go_num, rfl⟩
      case measure => simp [intOf]; omega
    · go_wp2
      go_ret
      exact ⟨q, rfl, rfl⟩

/-! ### rb1CloneBytes -/
/-- The first k bytes copied, the rest nought. -/
def part (l : List UInt8) (k : Nat) : List Value := bys (l.take k) ++ List.replicate (l.length - k) (.int .u8 0)
theorem part_zero (l : List UInt8) : part l 0 = List.replicate l.length (.int .u8 0) := by simp [part, bys]
theorem part_len (l : List UInt8) (k : Nat) (h : k ≤ l.length) : (part l k).length = l.length := by simp [part, bys]; omega
theorem part_all (l : List UInt8) : part l l.length = bys l := by simp [part]
theorem part_set (l : List UInt8) (k : Nat) (h : k < l.length) : (part l k).set k (.int .u8 (bat l k)) = part l (k + 1) := by
  unfold part
  have e1 : l.length - k = (l.length - (k + 1)) + 1 := by omega
  have hl : (bys (l.take k)).length = k := by simp [bys]; omega
  rw [e1, List.replicate_succ, List.set_append_right _ _ (by omega), hl, Nat.sub_self, List.set_cons_zero, List.take_succ_eq_append_getElem h, bys_append]
  simp [bys, bat_eq h]

/-- A store into a block that is new since w. -/
theorem grown_set {w wr : World} {r : Option Nat} (h : w.grownBy wr r) (g k : Nat) (hg : w.heap.size ≤ g) (u : Value) : w.grownBy (wr.setCell ⟨g, k, none⟩ u) r :=
  ⟨h.os, h.tape, h.output, by simpa using h.size, fun j hj hne => (Below.heap_setCell wr ⟨g, k, none⟩ u j (by show j ≠ g; omega)).trans (h.block j hj hne)⟩

set_option maxHeartbeats 800000 in
theorem clone_any (ao : Option Addr) (b off n cap : Nat) (l : List UInt8) (w : World) (hl : l.length = n) (hr : RdB w ao b off n l) (hm : n ≤ 281474976710656) :
    Calls Trym.prog 9 #[.slice ao n cap] w fun e w' => ∃ v', e = .returned v' ∧ w'.ownsRow w.heap.size 5 1 v' n (bys l) ∧ w.grownBy w' none := by
  obtain ⟨i0, hi, hz0, hz1, hz2⟩ := info_parts Trym.info5
  have hnil := Lib.run_eql_slice_nil (P := Trym.prog) w 22 5 ao n cap 0 0 Trym.underlying22
  cases hao : ao with
  | none =>
    have hn0 : n = 0 := by
      rcases Nat.eq_zero_or_pos n with h | h
      · exact h
      · have := hr.addr h; rw [hao] at this; cases this
    subst hao
    subst hn0
    obtain rfl : l = [] := List.eq_nil_of_length_eq_zero hl
    go_enter Trym.func9, Trym.ntmps9
    go_wp2
    go_ret
    exact ⟨_, rfl, World.ownsRow_nil _ _ _ _, World.grownBy.refl _ _⟩
  | some a0 =>
    subst hao
    go_enter Trym.func9, Trym.ntmps9
    go_wp2_with (at_make; refine wpList_make_full w rfl (.tmp 8) (.tmp 8) 22 rfl w.heap.size 5 i0 (.int .u8 0) 1 Trym.underlying22 hi hz0 hz1 .i64 .i64 n n n rfl rfl rfl rfl (by rw [hz2]; omega) (by unfold maxLen; omega) (Nat.le_refl _) ?_)
    intro w1 hown hgr
    have e0 : (madeCells #[Value.int .u8 0] n).toList = part l 0 := by
      rw [part_zero, hl]; exact toList_madeCells_one _ _
    rw [e0] at hown
    clear e0
    go_wp2
    go_loopw [4] (fun i wr => ∃ k : Nat, k ≤ n ∧ i = .int .i64 k ∧ wr.ownsRow w.heap.size 5 1 (.slice (some ⟨w.heap.size, 0, none⟩) n n) n (part l k) ∧ w.grownBy wr none) (fun i _ => n - (intOf i).toNat)
    case atStart => exact ⟨0, Nat.zero_le _, rfl, hown, hgr⟩
    case round =>
      obtain ⟨k, hk, rfl, hownk, hgrk⟩ := hrel
      clear hown hgr
      by_cases hlt : k < n
      · obtain rfl := Option.some.inj (hr.addr (by omega))
        have hb : b < w.heap.size := World.block_lt_of_cell? _ _ (hr.cell k hlt)
        have c1 : wr.cell? ⟨b, off + k, none⟩ = some (.int .u8 (bat l k)) := hgrk.cell (hr.cell k hlt) (by simp)
        have c2 : wr.cell? ⟨w.heap.size, k, none⟩ = some ((part l k).getD k undef) := by
          rw [hownk.cellAt k (by omega), List.getD_eq_getElem?_getD, List.getElem?_eq_getElem (by rw [part_len l k (by omega)]; omega)]; rfl
        obtain ⟨u, hu⟩ : ∃ u, wr.cell? ⟨w.heap.size, k, none⟩ = some u := ⟨_, c2⟩
        clear c2
        have c3 : wr.frozen? ⟨w.heap.size, k, none⟩ = false := hownk.frozenAt k
        have hst := (hownk.stored k (.int .u8 (bat l k))).1
        rw [part_set l k (by omega)] at hst
        have hgs := grown_set hgrk w.heap.size k (Nat.le_refl _) (.int .u8 (bat l k))
        clear hownk hgrk
        go_wp2
        go_roundw
        case rel => exact ⟨k + 1, by omega, by go_num, hst, hgs⟩
        case measure => simp [intOf]; omega
      · obtain rfl : k = n := by omega
        go_wp2
        go_ret
        exact ⟨_, rfl, by subst hl; rw [part_all] at hownk; exact hownk, hgrk⟩
end Go.Proofs.Qxb6000036aMods
