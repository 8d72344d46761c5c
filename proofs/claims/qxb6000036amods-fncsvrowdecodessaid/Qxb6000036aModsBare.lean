/-
  THE WALK OF rb1DecodeField (13) AT A BARE FIELD.
-/
import Derived.Test.Qxb6000036aModsDecode
namespace Go.Proofs.Qxb6000036aMods
open Go.RowKit Csv

/-! ### A bare field -/
theorem pat {L l rest : List UInt8} {c : UInt8} {pos : Nat} (hD : L.drop pos = l ++ c :: rest) {k : Nat} (h : k < l.length) : bat L (pos + k) = bat l k ∧ pos + k < L.length := by
  have e : l = l.take k ++ (l[k] :: l.drop (k + 1)) := by rw [← drop_cons h, List.take_append_drop]
  have h1 := at_drop (X := l.take k) (c := l[k]) (Y := l.drop (k + 1) ++ c :: rest) (by rw [hD, ← List.cons_append, ← List.append_assoc, ← e])
  rw [List.length_take, Nat.min_eq_left (by omega)] at h1
  exact ⟨by rw [h1.1, bat_eq h], h1.2⟩

theorem bare_facts {l : List UInt8} (h : hasSpc l = false) {k : Nat} (hk : k < l.length) : bat l k ≠ 44 ∧ bat l k ≠ 34 ∧ bat l k ≠ 13 ∧ bat l k ≠ 10 := by
  rw [bat_eq hk]; exact (spc_false _).1 (hasSpc_mem h hk)

theorem ret_four {s : ByteArray} {q ok : Bool} {p p' : Int} (h : p = p') : Ending.returned (.tuple #[.string s, .bool q, .int .i64 p, .bool ok]) = .returned (.tuple #[.string s, .bool q, .int .i64 p', .bool ok]) := by rw [h]

set_option maxHeartbeats 1600000 in
theorem decode_bare (b off n cap pos : Nat) (L rest : List UInt8) (c : UInt8) (s : ByteArray) (w : World) (hL : L.length = n) (hr : RdB w (some ⟨b, off, none⟩) b off n L) (hn : n ≤ 140737488355328) (hcap : n ≤ cap)
    (hsp : hasSpc s.data.toList = false) (hD : L.drop pos = s.data.toList ++ c :: rest) (hc : c.toNat = 44 ∨ c.toNat = 10) :
    Calls Trym.prog 13 #[.slice (some ⟨b, off, none⟩) n cap, .int .i64 pos] w fun e w' => e = .returned (.tuple #[.string s, .bool false, .int .i64 ((pos + s.size : Nat) : Int), .bool true]) ∧ w = w' := by
  have hend := at_drop (X := s.data.toList) (c := c) (Y := rest) hD
  rw [str_len, hL] at hend
  obtain ⟨he1, he2⟩ := hend
  have hpc : ¬ cap = pos := by omega
  have HE : Hid (bat L (pos + s.size) = c.toNat) := he1
  have HA : Hid (∀ k, k < s.size → bat L (pos + k) = bat s.data.toList k) := fun k hk => (pat hD (by rw [str_len]; exact hk)).1
  have HB : Hid (∀ k, k < s.size → bat s.data.toList k ≠ 44 ∧ bat s.data.toList k ≠ 34 ∧ bat s.data.toList k ≠ 13 ∧ bat s.data.toList k ≠ 10) := fun k hk => bare_facts hsp (by rw [str_len]; exact hk)
  have hf : Hid (bat L pos ≠ 34) := by
    unfold Hid
    rcases Nat.eq_zero_or_pos s.size with h0 | h0
    · have := HE.out
      rw [h0, Nat.add_zero] at this
      omega
    · have h1 := HA.out 0 h0
      have h2 := HB.out 0 h0
      rw [Nat.add_zero] at h1
      omega
  have c0 : w.cell? ⟨b, off + pos, none⟩ = some (.int .u8 (bat L pos)) := hr.cell pos (by omega)
  have hcv : (convert 22 9 (.slice (some ⟨b, off + pos, none⟩) s.size (cap - pos))).run Trym.prog w = .ok (.string s) w := by
    have := run_convert_bytes_back (P := Trym.prog) w 22 9 5 ⟨b, off + pos, none⟩ (cap - pos) s.data.toList Trym.underlying22 Trym.underlying5 Trym.underlying9 (fun j hj => by
      rw [str_len] at hj
      rw [Addr.add_lit, Nat.add_assoc, hr.cell (pos + j) (by omega), HA.out j hj, bat_eq (by rw [str_len]; exact hj)])
    rw [str_len, str_back] at this
    exact this
  have x0 : ((bat L pos : Int) == 34) = false := by have := hf.out; simp; omega
  have hp1 : (pos : Int) < (n : Int) := by omega
  clear he1 hD hL
  go_enter Trym.func13, Trym.ntmps13
  go_wp2
  go_loop [11] (fun i => ∃ k p : Nat, k ≤ s.size ∧ i = .int .i64 p ∧ Hid (p = pos + k)) (fun i => pos + s.size - (intOf i).toNat)
  case atStart => exact ⟨0, pos, Nat.zero_le _, rfl, rfl⟩
  case round =>
    obtain ⟨k, p, hk, rfl, HP⟩ := hrel
    clear c0 x0
    by_cases hlt : k < s.size
    · have hb := HB.out k hlt
      have hpk := HP.out
      have c1 : w.cell? ⟨b, off + p, none⟩ = some (.int .u8 (bat s.data.toList k)) := by rw [hpk, hr.cell (pos + k) (by omega), HA.out k hlt]
      have x1 : ((bat s.data.toList k : Int) != 44) = true := by simp; omega
      have x2 : ((bat s.data.toList k : Int) == 34) = false := by simp; omega
      have x3 : ((bat s.data.toList k : Int) == 13) = false := by simp; omega
      have x4 : ((bat s.data.toList k : Int) != 10) = true := by simp; omega
      have l1 : (p : Int) < (n : Int) := by omega
      have l2 : p < pos + s.size := by omega
      clear hb hpk
      go_wp2
      go_round
      case rel => exact ⟨k + 1, p + 1, hlt, by go_num, by unfold Hid; have := HP.out; omega⟩
      case measure => simp [intOf]; omega
    · obtain rfl : k = s.size := by omega
      have c1 : w.cell? ⟨b, off + p, none⟩ = some (.int .u8 c.toNat) := by rw [HP.out, hr.cell (pos + s.size) (by omega), HE.out]
      have l1 : (p : Int) < (n : Int) := by have := HP.out; omega
      have l2 : pos ≤ p := by have := HP.out; omega
      have hcv2 : (convert 22 9 (.slice (some ⟨b, off + pos, none⟩) (p - pos) (cap - pos))).run Trym.prog w = .ok (.string s) w := by
        rw [show p - pos = s.size by have := HP.out; omega]; exact hcv
      clear hcv
      rcases hc with hc | hc
      · have x1 : ((c.toNat : Int) != 44) = false := by simp; omega
        clear hc
        go_wp2
        refine bodyPost_ret (results_four rfl _ _ _) rfl ?_
        exact ⟨ret_four (by have := HP.out; omega), rfl⟩
      · have x1 : ((c.toNat : Int) != 44) = true := by simp; omega
        have x2 : ((c.toNat : Int) != 10) = false := by simp; omega
        clear hc
        go_wp2
        refine bodyPost_ret (results_four rfl _ _ _) rfl ?_
        exact ⟨ret_four (by have := HP.out; omega), rfl⟩
end Go.Proofs.Qxb6000036aMods
