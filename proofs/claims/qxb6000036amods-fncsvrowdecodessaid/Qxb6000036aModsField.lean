/-
  THE WALK OF csvField (24) AND ITS FRONT ZZcsvField (10), onto a slice of the call's own.
-/
import Derived.Test.Qxb6000036aModsProg
import Derived.Test.Qxb6000036aModsMem
import Derived.Outline
import Derived.WalkSpells
import Derived.KernelRfl
namespace Go.Proofs.Qxb6000036aMods
open Go.RowKit Csv

theorem Trym.info5 : (Trym.prog.info? 5).map (fun i => (i.zero, i.size, i.bytes)) = some (some (.int .u8 0), 1, 1) := by kernel_rfl

theorem str_len (s : ByteArray) : s.data.toList.length = s.size := by simp
theorem str_take_snoc (s : ByteArray) (k : Nat) (h : k < s.size) : s.data.toList.take (k + 1) = s.data.toList.take k ++ [s[k]] := by
  rw [List.take_succ_eq_append_getElem (by simpa using h)]; rfl

theorem one_u8 (n : Int) : ∀ u ∈ [Value.int .u8 n], u.oneCell' = true := by
  intro u hu; simp at hu; subst hu; rfl
theorem body_take_len (l : List UInt8) (k : Nat) : (body (l.take k)).length ≤ 2 * k := by
  have h1 := (body_len (l.take k)).2
  have h2 : (l.take k).length ≤ k := List.length_take_le _ _
  omega

/-- What has been appended when the loop over the bytes has come to k. -/
def upto (xs : List Value) (l : List UInt8) (k : Nat) : List Value := xs ++ bys (34 :: body (l.take k))
theorem upto_zero (xs : List Value) (l : List UInt8) : upto xs l 0 = xs ++ [.int .u8 34] := rfl
theorem upto_len (xs : List Value) (l : List UInt8) (k : Nat) : (upto xs l k).length ≤ xs.length + 2 * k + 1 := by
  have := body_take_len l k
  simp only [upto, List.length_append, bys_len, List.length_cons]; omega
theorem upto_quote (xs : List Value) (s : ByteArray) (k : Nat) (h : k < s.size) (hc : (s[k].toNat : Int) = 34) : upto xs s.data.toList k ++ [.int .u8 34, .int .u8 34] = upto xs s.data.toList (k + 1) := by
  unfold upto
  rw [str_take_snoc s k h, body_snoc, dbl_quote (by omega)]
  simp [bys]
theorem upto_other (xs : List Value) (s : ByteArray) (k : Nat) (h : k < s.size) (hc : ¬ (s[k].toNat : Int) = 34) : upto xs s.data.toList k ++ [.int .u8 s[k].toNat] = upto xs s.data.toList (k + 1) := by
  unfold upto
  rw [str_take_snoc s k h, body_snoc, dbl_other (by omega)]
  simp [bys]
theorem upto_end (xs : List Value) (s : ByteArray) (h : hasSpc s.data.toList = true) : upto xs s.data.toList s.size ++ [.int .u8 34] = xs ++ bys (field s.data.toList) := by
  unfold upto
  rw [List.take_of_length_le (by simp), field_pos _ h]
  simp [bys]
theorem spc_at (s : ByteArray) (k : Nat) (h : k < s.size) : spc (s[k]) = true ↔ (s[k].toNat : Int) = 44 ∨ (s[k].toNat : Int) = 34 ∨ (s[k].toNat : Int) = 13 ∨ (s[k].toNat : Int) = 10 := by
  rw [spc_iff]; omega
theorem spc_no (s : ByteArray) (k : Nat) (h : k < s.size) (hc : spc (s[k]) = false) :
    ((s[k].toNat : Int) == 44) = false ∧ ((s[k].toNat : Int) == 34) = false ∧ ((s[k].toNat : Int) == 13) = false ∧ ((s[k].toNat : Int) == 10) = false := by
  have := (spc_false (s[k])).1 hc
  simp only [beq_eq_false_iff_ne, ne_eq]; omega
theorem spc_yes (s : ByteArray) (k : Nat) (h : k < s.size) (hc : spc (s[k]) = true) :
    ((s[k].toNat : Int) == 44) = true ∨ (((s[k].toNat : Int) == 44) = false ∧ ((s[k].toNat : Int) == 34) = true) ∨ (((s[k].toNat : Int) == 44) = false ∧ ((s[k].toNat : Int) == 34) = false ∧ ((s[k].toNat : Int) == 13) = true) ∨
      (((s[k].toNat : Int) == 44) = false ∧ ((s[k].toNat : Int) == 34) = false ∧ ((s[k].toNat : Int) == 13) = false ∧ ((s[k].toNat : Int) == 10) = true) := by
  have := (spc_iff (s[k])).1 hc
  simp only [beq_eq_false_iff_ne, ne_eq, beq_iff_eq]; omega
theorem hasSpc_of (s : ByteArray) (k : Nat) (h : k < s.size) (hc : spc (s[k]) = true) : hasSpc s.data.toList = true := hasSpc_take (k := k) (by simpa using h) hc
theorem hasSpc_step (s : ByteArray) (k : Nat) (h : k < s.size) (hns : hasSpc (s.data.toList.take k) = false) (hc : spc (s[k]) = false) : hasSpc (s.data.toList.take (k + 1)) = false := by
  rw [str_take_snoc s k h, hasSpc_snoc, hns, hc]; rfl
theorem hasSpc_all (s : ByteArray) (k : Nat) (h : ¬ k < s.size) (hns : hasSpc (s.data.toList.take k) = false) : hasSpc s.data.toList = false := by
  rw [List.take_of_length_le (by simp; omega)] at hns; exact hns

set_option maxHeartbeats 1600000 in
theorem csvField_own {W : World} {row : Option Nat} {base : Nat} (w : World) (v : Value) (xs : List Value) (s : ByteArray) (hg : Gr W row base 5 w v xs) (hb : xs.length + 2 * s.size + 2 ≤ 140737488355328) :
    Calls Trym.prog 24 #[v, .string s] w fun e w' => ∃ v', e = .returned v' ∧ Gr W row base 5 w' v' (xs ++ bys (field s.data.toList)) := by
  obtain ⟨i0, hi, hz0, hz1, hz2⟩ := info_parts Trym.info5
  have hm : s.size ≤ 9223372036854775807 := by omega
  go_enter Trym.func24, Trym.ntmps24
  go_wp2
  go_loop [5, 6] (fun q i => ∃ k : Nat, k ≤ s.size ∧ i = .int .i64 k ∧ q = .bool false ∧ hasSpc (s.data.toList.take k) = false) (fun _ i => s.size - (intOf i).toNat)
  case atStart => exact ⟨0, Nat.zero_le _, rfl, rfl, rfl⟩
  case round =>
    obtain ⟨k, hk, rfl, rfl, hns⟩ := hrel
    have HN : Hid (hasSpc (s.data.toList.take k) = false) := hns
    clear hns
    by_cases hlt : k < s.size
    · cases hsp : spc (s[k]) with
      | false =>
        obtain ⟨h1, h2, h3, h4⟩ := spc_no s k hlt hsp
        have HS := hasSpc_step s k hlt HN.out hsp
        have HS' : Hid (hasSpc (s.data.toList.take (k + 1)) = false) := HS
        clear HS hsp
        go_wp2
        go_round
        case rel => exact ⟨k + 1, by omega, by go_num, rfl, HS'.out⟩
        case measure => simp [intOf]; omega
      | true =>
        have HT : Hid (hasSpc s.data.toList = true) := hasSpc_of s k hlt hsp
        have hyes := spc_yes s k hlt hsp
        clear hsp HN
        rcases hyes with h1 | ⟨h1, h2⟩ | ⟨h1, h2, h3⟩ | ⟨h1, h2, h3, h4⟩
        all_goals
          go_wp2_with (at_builtin; refine wpList_append_gr _ rfl (.tmp 37) (.tmp 38) 22 rfl i0 (.int .u8 0) 1 Trym.underlying22 hi hz0 hz1 hz2 rfl rfl (hg.alloc _) ⟨w.heap.size, 0, none⟩ 1 1 [.int .u8 34] rfl rfl (cell_one_new _ _ _) (one_u8 _) (by omega) (by unfold maxLen; omega) ?_)
          intro v1 w1 hg1
          go_wp2
          clear h1
          have hk0 : Gr W row base 5 w1 v1 (upto xs s.data.toList 0) := hg1
          clear hg1
          go_loopw [0, 8] (fun d i wr => ∃ m : Nat, m ≤ s.size ∧ i = .int .i64 m ∧ Gr W row base 5 wr d (upto xs s.data.toList m)) (fun _ i _ => s.size - (intOf i).toNat)
          case atStart => exact ⟨0, Nat.zero_le _, rfl, hk0⟩
          case round =>
            obtain ⟨m, hm', rfl, hgm⟩ := hrel
            clear hk0
            have hul := upto_len xs s.data.toList m
            by_cases hlm : m < s.size
            · cases hq : ((s[m].toNat : Int) == 34) with
              | true =>
                have HQ : Hid ((s[m].toNat : Int) = 34) := by unfold Hid; simpa using hq
                go_wp2_with (at_builtin; refine wpList_append_gr _ rfl (.tmp 50) (.tmp 51) 22 rfl i0 (.int .u8 0) 1 Trym.underlying22 hi hz0 hz1 hz2 rfl rfl (hgm.alloc _) ⟨wr.heap.size, 0, none⟩ 1 1 [.int .u8 34] rfl rfl (cell_one_new _ _ _) (one_u8 _) (by omega) (by unfold maxLen; omega) ?_)
                intro v2 w2 hg2
                go_wp2_with (at_builtin; refine wpList_append_gr _ rfl (.tmp 53) (.tmp 57) 22 rfl i0 (.int .u8 0) 1 Trym.underlying22 hi hz0 hz1 hz2 rfl rfl (hg2.alloc _) ⟨w2.heap.size, 0, none⟩ 1 1 [.int .u8 s[m].toNat] rfl rfl (cell_one_new _ _ _) (one_u8 _) (by simp only [List.length_append, List.length_singleton]; omega) (by unfold maxLen; simp only [List.length_append, List.length_singleton]; omega) ?_)
                intro v3 w3 hg3
                go_wp2
                go_roundw
                case rel => exact ⟨m + 1, by omega, by go_num, by rw [HQ.out, upto_quote xs s m hlm HQ.out] at hg3; exact hg3⟩
                case measure => simp [intOf]; omega
              | false =>
                have HQ : Hid (¬ (s[m].toNat : Int) = 34) := by unfold Hid; simpa using hq
                go_wp2_with (at_builtin; refine wpList_append_gr _ rfl (.tmp 53) (.tmp 57) 22 rfl i0 (.int .u8 0) 1 Trym.underlying22 hi hz0 hz1 hz2 rfl rfl (hgm.alloc _) ⟨wr.heap.size, 0, none⟩ 1 1 [.int .u8 s[m].toNat] rfl rfl (cell_one_new _ _ _) (one_u8 _) (by omega) (by unfold maxLen; omega) ?_)
                intro v3 w3 hg3
                go_wp2
                go_roundw
                case rel => exact ⟨m + 1, by omega, by go_num, by rw [upto_other xs s m hlm HQ.out] at hg3; exact hg3⟩
                case measure => simp [intOf]; omega
            · obtain rfl : m = s.size := by omega
              go_wp2_with (at_builtin; refine wpList_append_gr _ rfl (.tmp 59) (.tmp 60) 22 rfl i0 (.int .u8 0) 1 Trym.underlying22 hi hz0 hz1 hz2 rfl rfl (hgm.alloc _) ⟨wr.heap.size, 0, none⟩ 1 1 [.int .u8 34] rfl rfl (cell_one_new _ _ _) (one_u8 _) (by omega) (by unfold maxLen; omega) ?_)
              intro v3 w3 hg3
              go_wp2
              go_ret
              exact ⟨_, rfl, by rw [upto_end xs s HT.out] at hg3; exact hg3⟩
    · have HT : Hid (hasSpc s.data.toList = false) := hasSpc_all s k hlt HN.out
      go_wp2_with (at_builtin; refine wpList_append_gr_string _ rfl (.tmp 34) (.tmp 35) 22 9 rfl i0 Trym.underlying22 Trym.underlying9 hi hz0 hz1 hz2 rfl hg s rfl (by omega) ?_)
      intro v1 w1 hg1
      go_wp2
      go_ret
      exact ⟨_, rfl, by rw [field_neg _ HT.out]; exact hg1⟩

theorem zzField_own {W : World} {row : Option Nat} {base : Nat} (w : World) (v : Value) (xs : List Value) (s : ByteArray) (hg : Gr W row base 5 w v xs) (hb : xs.length + 2 * s.size + 2 ≤ 140737488355328) :
    Calls Trym.prog 10 #[v, .string s] w fun e w' => ∃ v', e = .returned v' ∧ Gr W row base 5 w' v' (xs ++ bys (field s.data.toList)) := by
  go_enter Trym.func10, Trym.ntmps10
  go_wp2_with (go_at_call 24; refine (csvField_own w v xs s hg hb).mono ?_; rintro e w' ⟨v', rfl, hg'⟩)
  go_ret
  exact ⟨_, rfl, hg'⟩
end Go.Proofs.Qxb6000036aMods
