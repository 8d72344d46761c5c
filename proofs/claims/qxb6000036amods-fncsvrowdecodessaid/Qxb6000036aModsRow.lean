/-
  THE WALKS OF csvRow (25), ITS FRONT ZZcsvRow (19) AND rb1StringsBytes (18).
-/
import Derived.Test.Qxb6000036aModsPlainRow
import Derived.Test.Qxb6000036aModsField
import Derived.Test.Qxb6000036aModsRead
import Derived.KernelRfl
namespace Go.Proofs.Qxb6000036aMods
open Go.RowKit Csv

/-- The string at a place; the empty one behind the end. -/
def sat (ss : List ByteArray) (j : Nat) : ByteArray := ss.getD j ByteArray.empty
theorem sat_eq {ss : List ByteArray} {j : Nat} (h : j < ss.length) : sat ss j = ss[j] := by simp [sat, h]
def fsOf (ss : List ByteArray) : List (List UInt8) := ss.map fun s => s.data.toList
theorem fsOf_len (ss : List ByteArray) : (fsOf ss).length = ss.length := by simp [fsOf]
theorem fsOf_at {ss : List ByteArray} {j : Nat} (h : j < ss.length) : (fsOf ss)[j]'(by rw [fsOf_len]; exact h) = (sat ss j).data.toList := by
  rw [sat_eq h]; simp [fsOf]
theorem fsOf_append (a b : List ByteArray) : fsOf (a ++ b) = fsOf a ++ fsOf b := by simp [fsOf]

/-- A slice of strings, read. -/
abbrev RdS (w : World) (ao : Option Addr) (b off n : Nat) (ss : List ByteArray) : Prop := Rd w ao b off n (fun j => .string (sat ss j))

/-- What a row holds when k fields have been appended. -/
def rup (xs : List Value) (ss : List ByteArray) (k : Nat) : List Value := xs ++ bys (joins ((fsOf ss).take k))
theorem rup_zero (xs : List Value) (ss : List ByteArray) : rup xs ss 0 = xs := by simp [rup, joins, bys]
theorem take_fs {ss : List ByteArray} {k : Nat} (h : k < ss.length) : (fsOf ss).take (k + 1) = (fsOf ss).take k ++ [(sat ss k).data.toList] := by
  rw [List.take_succ_eq_append_getElem (by rw [fsOf_len]; exact h), fsOf_at h]
theorem rup_first (xs : List Value) (ss : List ByteArray) (h : 0 < ss.length) : rup xs ss 0 ++ bys (field (sat ss 0).data.toList) = rup xs ss (0 + 1) := by
  unfold rup
  rw [take_fs h, List.take_zero, List.nil_append, joins_one]; simp [joins, bys]
theorem rup_next (xs : List Value) (ss : List ByteArray) (k : Nat) (hk : 0 < k) (h : k < ss.length) : rup xs ss k ++ [.int .u8 44] ++ bys (field (sat ss k).data.toList) = rup xs ss (k + 1) := by
  unfold rup
  have hne : (fsOf ss).take k ≠ [] := by
    intro e
    have := congrArg List.length e
    rw [List.length_take, fsOf_len, List.length_nil] at this
    omega
  rw [take_fs h, joins_snoc _ _ hne]; simp [bys]
theorem rup_len (xs : List Value) (ss : List ByteArray) (k : Nat) : (rup xs ss k).length ≤ xs.length + 2 * tot ((fsOf ss).take k) + 3 * k := by
  have h1 := joins_len ((fsOf ss).take k)
  have h2 : ((fsOf ss).take k).length ≤ k := List.length_take_le _ _
  simp only [rup, List.length_append, bys_len]; omega
theorem rup_end (xs : List Value) (ss : List ByteArray) : rup xs ss ss.length ++ [.int .u8 10] = xs ++ bys (rowOf (fsOf ss)) := by
  unfold rup
  rw [List.take_of_length_le (by rw [fsOf_len]; exact Nat.le_refl _)]; simp [rowOf, bys]

set_option maxHeartbeats 800000 in
theorem csvRow_own {row : Option Nat} {base : Nat} (w : World) (v : Value) (xs : List Value) (hg : Gr w row base 5 w v xs) (ao : Option Addr) (b off n cap : Nat) (ss : List ByteArray) (hn : ss.length = n) (hr : RdS w ao b off n ss) (hrow : row ≠ some b)
    (hb : xs.length + 2 * tot (fsOf ss) + 3 * n + 2 ≤ 140737488355328) :
    Calls Trym.prog 25 #[v, .slice ao n cap] w fun e w' => ∃ v', e = .returned v' ∧ Gr w row base 5 w' v' (xs ++ bys (rowOf (fsOf ss))) := by
  obtain ⟨i0, hi, hz0, hz1, hz2⟩ := info_parts Trym.info5
  have HN : Hid (ss.length = n) := hn
  clear hn
  go_enter Trym.func25, Trym.ntmps25
  go_wp2
  go_loopw [0, 9] (fun d i wr => ∃ k : Nat, k ≤ n ∧ i = .int .i64 k ∧ Gr w row base 5 wr d (rup xs ss k)) (fun _ i _ => n - (intOf i).toNat)
  case atStart => exact ⟨0, Nat.zero_le _, rfl, by rw [rup_zero]; exact hg⟩
  case round =>
    obtain ⟨k, hk, rfl, hgk⟩ := hrel
    have hul := rup_len xs ss k
    by_cases hlt : k < n
    · obtain rfl := hr.addr (by omega)
      have hkl : k < ss.length := by rw [HN.out]; exact hlt
      have ht1 := tot_take (fsOf ss) (k + 1)
      rw [tot_take_succ (fsOf ss) k (by rw [fsOf_len]; exact hkl), fsOf_at hkl, str_len] at ht1
      have HK : Hid (k < ss.length) := hkl
      clear hkl
      have c1 : wr.cell? ⟨b, off + k, none⟩ = some (.string (sat ss k)) := (hr.grown hgk.grown hrow).cell k hlt
      have hlt' : (k : Int) < (n : Int) := by omega
      rcases Nat.eq_zero_or_pos k with h0 | h0
      · subst h0
        rw [Nat.add_zero] at c1
        go_wp2_with (go_at_call 24; refine (csvField_own _ _ (rup xs ss 0) (sat ss 0) hgk (by omega)).mono ?_; rintro e w' ⟨v', rfl, hg'⟩)
        go_roundw
        case rel => exact ⟨0 + 1, by omega, by go_num, by rw [rup_first xs ss HK.out] at hg'; exact hg'⟩
        case measure => simp [intOf]; omega
      · have h0' : (0 : Int) < (k : Int) := by omega
        go_wp2_with (at_builtin; refine wpList_append_gr _ rfl (.tmp 16) (.tmp 17) 22 rfl i0 (.int .u8 0) 1 Trym.underlying22 hi hz0 hz1 hz2 rfl rfl (hgk.alloc _) ⟨wr.heap.size, 0, none⟩ 1 1 [.int .u8 44] rfl rfl (cell_one_new _ _ _) (one_u8 _) (by omega) (by unfold maxLen; omega) ?_)
        intro v2 w2 hg2
        go_wp2_with (go_at_call 24; refine (csvField_own _ _ (rup xs ss k ++ [.int .u8 44]) (sat ss k) hg2 (by simp only [List.length_append, List.length_singleton]; omega)).mono ?_; rintro e w' ⟨v', rfl, hg'⟩)
        go_roundw
        case rel => exact ⟨k + 1, by omega, by go_num, by rw [rup_next xs ss k h0 HK.out] at hg'; exact hg'⟩
        case measure => simp [intOf]; omega
    · obtain rfl : k = n := by omega
      have ht1 := tot_take (fsOf ss) k
      go_wp2_with (at_builtin; refine wpList_append_gr _ rfl (.tmp 23) (.tmp 24) 22 rfl i0 (.int .u8 0) 1 Trym.underlying22 hi hz0 hz1 hz2 rfl rfl (hgk.alloc _) ⟨wr.heap.size, 0, none⟩ 1 1 [.int .u8 10] rfl rfl (cell_one_new _ _ _) (one_u8 _) (by omega) (by unfold maxLen; omega) ?_)
      intro v2 w2 hg2
      go_wp2
      go_ret
      exact ⟨_, rfl, by rw [← HN.out, rup_end] at hg2; exact hg2⟩

theorem zzRow_own {row : Option Nat} {base : Nat} (w : World) (v : Value) (xs : List Value) (hg : Gr w row base 5 w v xs) (ao : Option Addr) (b off n cap : Nat) (ss : List ByteArray) (hn : ss.length = n) (hr : RdS w ao b off n ss) (hrow : row ≠ some b)
    (hb : xs.length + 2 * tot (fsOf ss) + 3 * n + 2 ≤ 140737488355328) :
    Calls Trym.prog 19 #[v, .slice ao n cap] w fun e w' => ∃ v', e = .returned v' ∧ Gr w row base 5 w' v' (xs ++ bys (rowOf (fsOf ss))) := by
  go_enter Trym.func19, Trym.ntmps19
  go_wp2_with (go_at_call 25; refine (csvRow_own w v xs hg ao b off n cap ss hn hr hrow hb).mono ?_; rintro e w' ⟨v', rfl, hg'⟩)
  go_ret
  exact ⟨_, rfl, hg'⟩

set_option maxHeartbeats 800000 in
theorem stringsBytes_any (ao : Option Addr) (b off n cap : Nat) (ss : List ByteArray) (w : World) (hr : RdS w ao b off n ss) (hn : n ≤ 65536) :
    Calls Trym.prog 18 #[.slice ao n cap] w fun e w' => ∃ m : Nat, e = .returned (.int .i64 m) ∧ w = w' ∧ m ≤ 2097152 := by
  go_enter Trym.func18, Trym.ntmps18
  go_wp2
  go_loop [3, 4] (fun t i => ∃ k m : Nat, k ≤ n ∧ i = .int .i64 k ∧ t = .int .i64 m ∧ m ≤ 2097152) (fun _ i => n - (intOf i).toNat)
  case atStart => exact ⟨0, 16 * n, Nat.zero_le _, rfl, by go_num, by omega⟩
  case round =>
    obtain ⟨k, m, hk, rfl, rfl, hm⟩ := hrel
    by_cases hlt : k < n
    · obtain rfl := hr.addr (by omega)
      have c1 : w.cell? ⟨b, off + k, none⟩ = some (.string (sat ss k)) := hr.cell k hlt
      by_cases h1 : 1048576 < m
      · go_wp2
        go_ret
        exact ⟨m, rfl, rfl, hm⟩
      · by_cases h2 : 1048576 < (sat ss k).size
        · go_wp2
          go_ret
          exact ⟨1048577, rfl, rfl, by omega⟩
        · go_wp2
          go_round
          case rel => exact ⟨k + 1, m + (sat ss k).size, by omega, by go_num, by go_num, by omega⟩
          case measure => simp [intOf]; omega
    · go_wp2
      go_ret
      exact ⟨m, rfl, rfl, hm⟩

/-- What is summed when k strings have been looked at. -/
def tupto (ss : List ByteArray) (k : Nat) : Nat := tot ((fsOf ss).take k)
theorem tupto_zero (ss : List ByteArray) : tupto ss 0 = 0 := rfl
theorem tupto_succ {ss : List ByteArray} {k : Nat} (h : k < ss.length) : tupto ss (k + 1) = tupto ss k + (sat ss k).size := by
  unfold tupto
  rw [tot_take_succ _ k (by rw [fsOf_len]; exact h), fsOf_at h, str_len]
theorem tupto_all {ss : List ByteArray} {n : Nat} (h : ss.length = n) : tupto ss n = tot (fsOf ss) := tot_all _ _ (by rw [fsOf_len]; omega)

/-- It answers a bool; if true, then the bound holds. -/
def ZZok (B : Prop) (e : Ending) : Prop := ∃ r : Bool, e = .returned (.bool r) ∧ (r = true → B)
theorem zzok_no {B : Prop} {e : Ending} (h : e = .returned (.bool false)) : ZZok B e := ⟨false, h, fun h => by cases h⟩
theorem zzok_yes {B : Prop} {e : Ending} (h : e = .returned (.bool true)) (hB : B) : ZZok B e := ⟨true, h, fun _ => hB⟩

set_option maxHeartbeats 1600000 in
theorem zz17_any (a0 : Option Addr) (n0 cap0 : Nat) (ao : Option Addr) (b off n cap : Nat) (ss : List ByteArray) (w : World) (h0 : n0 ≤ 9223372036854775807) (hn : n ≤ 9223372036854775807) (hl : ss.length = n) (hr : RdS w ao b off n ss) (hsz : ∀ j, (sat ss j).size ≤ 9223372036854775807) :
    Calls Trym.prog 17 #[.slice a0 n0 cap0, .slice ao n cap] w fun e w' => ZZok (n0 + n + tot (fsOf ss) ≤ 1048576) e ∧ w = w' := by
  have HL : Hid (ss.length = n) := hl
  have HZ : Hid (∀ j, (sat ss j).size ≤ 9223372036854775807) := hsz
  clear hl hsz
  by_cases h1 : 1048576 < n0
  · go_enter Trym.func17, Trym.ntmps17
    go_wp2
    go_ret
    exact ⟨zzok_no rfl, rfl⟩
  by_cases h2 : 1048576 < n
  · go_enter Trym.func17, Trym.ntmps17
    go_wp2
    go_ret
    exact ⟨zzok_no rfl, rfl⟩
  by_cases h3 : 1048576 < n0 + n
  · go_enter Trym.func17, Trym.ntmps17
    go_wp2
    go_ret
    exact ⟨zzok_no rfl, rfl⟩
  go_enter Trym.func17, Trym.ntmps17
  go_wp2
  go_loop [5, 6] (fun t i => ∃ k m : Nat, k ≤ n ∧ i = .int .i64 k ∧ t = .int .i64 m ∧ m ≤ 1048576 ∧ Hid (m = n0 + n + tupto ss k)) (fun _ i => n - (intOf i).toNat)
  case atStart => exact ⟨0, n0 + n, Nat.zero_le _, rfl, by go_num, by omega, rfl⟩
  case round =>
    obtain ⟨k, m, hk, rfl, rfl, hm, HM⟩ := hrel
    by_cases hlt : k < n
    · obtain rfl := hr.addr (by omega)
      have c1 : w.cell? ⟨b, off + k, none⟩ = some (.string (sat ss k)) := hr.cell k hlt
      have hz := HZ.out k
      by_cases h4 : 1048576 < (sat ss k).size
      · go_wp2
        go_ret
        exact ⟨zzok_no rfl, rfl⟩
      · by_cases h5 : 1048576 < m + (sat ss k).size
        · go_wp2
          go_ret
          exact ⟨zzok_no rfl, rfl⟩
        · go_wp2
          go_round
          case rel => exact ⟨k + 1, m + (sat ss k).size, by omega, by go_num, by go_num, by omega, by unfold Hid; rw [tupto_succ (by rw [HL.out]; exact hlt), HM.out]; omega⟩
          case measure => simp [intOf]; omega
    · go_wp2
      go_ret
      refine ⟨zzok_yes rfl ?_, rfl⟩
      obtain rfl : k = n := by omega
      have := HM.out
      rw [tupto_all HL.out] at this
      omega

set_option maxHeartbeats 1600000 in
theorem zz21_any (a0 : Option Addr) (n0 cap0 : Nat) (ao : Option Addr) (b off n cap : Nat) (ss : List ByteArray) (ao2 : Option Addr) (b2 off2 n2 cap2 : Nat) (ss2 : List ByteArray) (w : World) (h0 : n0 ≤ 9223372036854775807) (hn : n ≤ 9223372036854775807) (hn2 : n2 ≤ 9223372036854775807)
    (hl : ss.length = n) (hr : RdS w ao b off n ss) (hsz : ∀ j, (sat ss j).size ≤ 9223372036854775807) (hl2 : ss2.length = n2) (hr2 : RdS w ao2 b2 off2 n2 ss2) (hsz2 : ∀ j, (sat ss2 j).size ≤ 9223372036854775807) :
    Calls Trym.prog 21 #[.slice a0 n0 cap0, .slice ao n cap, .slice ao2 n2 cap2] w fun e w' => ZZok (n0 + n + tot (fsOf ss) + n2 + tot (fsOf ss2) ≤ 1048576) e ∧ w = w' := by
  have HL : Hid (ss.length = n) := hl
  have HZ : Hid (∀ j, (sat ss j).size ≤ 9223372036854775807) := hsz
  have HL2 : Hid (ss2.length = n2) := hl2
  have HZ2 : Hid (∀ j, (sat ss2 j).size ≤ 9223372036854775807) := hsz2
  clear hl hsz hl2 hsz2
  by_cases h1 : 1048576 < n0
  · go_enter Trym.func21, Trym.ntmps21
    go_wp2
    go_ret
    exact ⟨zzok_no rfl, rfl⟩
  by_cases h2 : 1048576 < n
  · go_enter Trym.func21, Trym.ntmps21
    go_wp2
    go_ret
    exact ⟨zzok_no rfl, rfl⟩
  by_cases h3 : 1048576 < n0 + n
  · go_enter Trym.func21, Trym.ntmps21
    go_wp2
    go_ret
    exact ⟨zzok_no rfl, rfl⟩
  go_enter Trym.func21, Trym.ntmps21
  go_wp2
  go_loop [7, 8] (fun t i => ∃ k m : Nat, k ≤ n ∧ i = .int .i64 k ∧ t = .int .i64 m ∧ m ≤ 1048576 ∧ Hid (m = n0 + n + tupto ss k)) (fun _ i => n - (intOf i).toNat)
  case atStart => exact ⟨0, n0 + n, Nat.zero_le _, rfl, by go_num, by omega, rfl⟩
  case round =>
    obtain ⟨k, m, hk, rfl, rfl, hm, HM⟩ := hrel
    by_cases hlt : k < n
    · obtain rfl := hr.addr (by omega)
      have c1 : w.cell? ⟨b, off + k, none⟩ = some (.string (sat ss k)) := hr.cell k hlt
      have hz := HZ.out k
      by_cases h4 : 1048576 < (sat ss k).size
      · go_wp2
        go_ret
        exact ⟨zzok_no rfl, rfl⟩
      · by_cases h5 : 1048576 < m + (sat ss k).size
        · go_wp2
          go_ret
          exact ⟨zzok_no rfl, rfl⟩
        · go_wp2
          go_round
          case rel => exact ⟨k + 1, m + (sat ss k).size, by omega, by go_num, by go_num, by omega, by unfold Hid; rw [tupto_succ (by rw [HL.out]; exact hlt), HM.out]; omega⟩
          case measure => simp [intOf]; omega
    · have HM1 : Hid (m = n0 + n + tot (fsOf ss)) := by
        unfold Hid
        obtain rfl : k = n := by omega
        have := HM.out
        rwa [tupto_all HL.out] at this
      clear HM
      by_cases h6 : 1048576 < n2
      · go_wp2
        go_ret
        exact ⟨zzok_no rfl, rfl⟩
      by_cases h7 : 1048576 < m + n2
      · go_wp2
        go_ret
        exact ⟨zzok_no rfl, rfl⟩
      go_wp2
      go_loop [7, 9] (fun t i => ∃ k2 m2 : Nat, k2 ≤ n2 ∧ i = .int .i64 k2 ∧ t = .int .i64 m2 ∧ m2 ≤ 1048576 ∧ Hid (m2 = m + n2 + tupto ss2 k2)) (fun _ i => n2 - (intOf i).toNat)
      case atStart => exact ⟨0, m + n2, Nat.zero_le _, rfl, by go_num, by omega, rfl⟩
      case round =>
        obtain ⟨k2, m2, hk2, rfl, rfl, hm2, HM2⟩ := hrel
        by_cases hlt2 : k2 < n2
        · obtain rfl := hr2.addr (by omega)
          have c2 : w.cell? ⟨b2, off2 + k2, none⟩ = some (.string (sat ss2 k2)) := hr2.cell k2 hlt2
          have hz2 := HZ2.out k2
          by_cases h8 : 1048576 < (sat ss2 k2).size
          · go_wp2
            go_ret
            exact ⟨zzok_no rfl, rfl⟩
          · by_cases h9 : 1048576 < m2 + (sat ss2 k2).size
            · go_wp2
              go_ret
              exact ⟨zzok_no rfl, rfl⟩
            · go_wp2
              go_round
              case rel => exact ⟨k2 + 1, m2 + (sat ss2 k2).size, by omega, by go_num, by go_num, by omega, by unfold Hid; rw [tupto_succ (by rw [HL2.out]; exact hlt2), HM2.out]; omega⟩
              case measure => simp [intOf]; omega
        · go_wp2
          go_ret
          refine ⟨zzok_yes rfl ?_, rfl⟩
          obtain rfl : k2 = n2 := by omega
          have e1 := HM1.out
          have e2 := HM2.out
          rw [tupto_all HL2.out] at e2
          omega
end Go.Proofs.Qxb6000036aMods
