/-
  THE WALK OF encRootB1IsCanonicalEncoding (10) over what percentEncode has written; encRootB1Plain (19), encRootB1UpperHex (18).
-/
import Derived.Test.Qxb6600255aModsEncode
namespace Go.Proofs.Qxb6600255aMods
open Go.RowKit Enc

theorem encPlain_any (n : Nat) (w : World) :
    Calls Trym.prog 19 #[.int .u8 (n : Int)] w fun e w' => e = .returned (.bool (plain n)) ∧ w = w' := by
  by_cases h3 : n = 37
  · have h3' : ((n : Int) == 37) = true := by simp; omega
    go_enter Trym.func19, Trym.ntmps19
    go_wp2
    go_ret
    exact ⟨ret_bool (by rw [plain_no (by omega)]), rfl⟩
  · have h3' : ((n : Int) == 37) = false := by simp; omega
    by_cases h1 : 32 ≤ n
    · by_cases h2 : n ≤ 126
      · have h1' : (32 : Int) ≤ (n : Int) := by omega
        have h2' : (n : Int) ≤ 126 := by omega
        go_enter Trym.func19, Trym.ntmps19
        go_wp2
        go_ret
        exact ⟨ret_bool (by rw [plain_yes (by omega)]), rfl⟩
      · have h1' : (32 : Int) ≤ (n : Int) := by omega
        have h2' : decide ((n : Int) ≤ 126) = false := decide_eq_false (by omega)
        go_enter Trym.func19, Trym.ntmps19
        go_wp2
        go_ret
        exact ⟨ret_bool (by rw [plain_no (by omega)]), rfl⟩
    · have h1' : decide ((32 : Int) ≤ (n : Int)) = false := decide_eq_false (by omega)
      go_enter Trym.func19, Trym.ntmps19
      go_wp2
      go_ret
      exact ⟨ret_bool (by rw [plain_no (by omega)]), rfl⟩

theorem ret_two {a b : Int} {q : Bool} (h : a = b) : Ending.returned (.tuple #[.int .u8 a, .bool q]) = .returned (.tuple #[.int .u8 b, .bool q]) := by rw [h]

theorem upper_any (j : Nat) (w : World) (hj : j < 16) :
    Calls Trym.prog 18 #[.int .u8 (hexd j : Int)] w fun e w' => e = .returned (.tuple #[.int .u8 (j : Int), .bool true]) ∧ w = w' := by
  obtain ⟨n, hn⟩ : ∃ n, hexd j = n := ⟨_, rfl⟩
  rw [hn]
  by_cases h10 : j < 10
  · have e1 : Hid (n = 48 + j) := by unfold Hid; rw [← hn, hexd, if_pos h10]
    have l1 : (48 : Int) ≤ (n : Int) := by have := e1.out; omega
    have l2 : (n : Int) ≤ 57 := by have := e1.out; omega
    clear hn
    go_enter Trym.func18, Trym.ntmps18
    go_wp2
    go_ret2
    exact ⟨ret_two (by have := e1.out; omega), rfl⟩
  · have e1 : Hid (n = 55 + j) := by unfold Hid; rw [← hn, hexd, if_neg h10]
    have l1 : (65 : Int) ≤ (n : Int) := by have := e1.out; omega
    have l2 : (n : Int) ≤ 70 := by have := e1.out; omega
    have l3 : (48 : Int) ≤ (n : Int) := by have := e1.out; omega
    have l4 : decide ((n : Int) ≤ 57) = false := decide_eq_false (by omega)
    clear hn
    go_enter Trym.func18, Trym.ntmps18
    go_wp2
    go_ret2
    exact ⟨ret_two (by have := e1.out; omega), rfl⟩

/-! ### Bytes behind a place -/
theorem at_drop {L X Y : List UInt8} {a : Nat} {c : UInt8} (h : L.drop a = X ++ c :: Y) : bat L (a + X.length) = c.toNat ∧ a + X.length < L.length := by
  have h1 : L[a + X.length]? = some c := by
    rw [← List.getElem?_drop, h, List.getElem?_append_right (Nat.le_refl _), Nat.sub_self]; rfl
  obtain ⟨h2, h3⟩ := List.getElem?_eq_some_iff.1 h1
  exact ⟨by rw [bat_eq h2, h3], h2⟩
/-- Where the token of byte j begins. -/
def epos (s : ByteArray) (j : Nat) : Nat := (enc (s.data.toList.take j)).length
theorem epos_plain {s : ByteArray} {j : Nat} (h : j < s.size) (hp : plain s[j].toNat = true) : epos s (j + 1) = epos s j + 1 := by
  unfold epos; rw [str_take_snoc s j h, enc_snoc, tok_plain hp, List.length_append]; rfl
theorem epos_esc {s : ByteArray} {j : Nat} (h : j < s.size) (hp : plain s[j].toNat = false) : epos s (j + 1) = epos s j + 3 := by
  unfold epos; rw [str_take_snoc s j h, enc_snoc, tok_esc hp, List.length_append]; rfl
theorem epos_all (s : ByteArray) : epos s s.size = (enc s.data.toList).length := by
  unfold epos; rw [List.take_of_length_le (by simp)]
theorem enc_drop {s : ByteArray} {j : Nat} (h : j < s.size) : (enc s.data.toList).drop (epos s j) = tok s[j] ++ enc (s.data.toList.drop (j + 1)) := by
  have h' : j < s.data.toList.length := by simpa using h
  have e : s.data.toList = s.data.toList.take j ++ (s.data.toList[j] :: s.data.toList.drop (j + 1)) := by rw [← List.drop_eq_getElem_cons h', List.take_append_drop]
  have e2 : enc s.data.toList = enc (s.data.toList.take j) ++ (tok s[j] ++ enc (s.data.toList.drop (j + 1))) := by
    calc enc s.data.toList = enc (s.data.toList.take j ++ (s.data.toList[j] :: s.data.toList.drop (j + 1))) := by rw [← e]
      _ = _ := by rw [enc_append, enc_cons]; rfl
  rw [e2]
  unfold epos
  simp
theorem eat_plain {s : ByteArray} {j : Nat} (h : j < s.size) (hp : plain s[j].toNat = true) : bat (enc s.data.toList) (epos s j) = s[j].toNat ∧ epos s j < (enc s.data.toList).length := by
  have h1 := enc_drop h
  rw [tok_plain hp] at h1
  have := at_drop (X := []) h1
  simpa using this
theorem eat_esc {s : ByteArray} {j : Nat} (h : j < s.size) (hp : plain s[j].toNat = false) :
    bat (enc s.data.toList) (epos s j) = 37 ∧ bat (enc s.data.toList) (epos s j + 1) = hexd (s[j].toNat / 16) ∧ bat (enc s.data.toList) (epos s j + 2) = hexd (s[j].toNat % 16) ∧ epos s j + 2 < (enc s.data.toList).length := by
  have h1 := enc_drop h
  rw [tok_esc hp] at h1
  have hb := UInt8.toNat_lt s[j]
  have a0 := at_drop (X := []) h1
  have a1 := at_drop (X := [37]) h1
  have a2 := at_drop (X := [37, UInt8.ofNat (hexd (s[j].toNat / 16))]) h1
  rw [hexd_nat (by omega)] at a1 a2
  exact ⟨a0.1, a1.1, a2.1, a2.2⟩

set_option maxHeartbeats 1600000 in
theorem canon_any (s o : ByteArray) (w : World) (hs : s.size ≤ 1048576) (ho : o.data.toList = enc s.data.toList) :
    Calls Trym.prog 10 #[.string s, .string o] w fun e w' => e = .returned (.bool true) ∧ w = w' := by
  have HO : Hid (o.data.toList = enc s.data.toList) := ho
  have HS : Hid (o.size = (enc s.data.toList).length) := by unfold Hid; rw [← str_len, ho]
  have hos : o.size ≤ 3145728 := by
    have := (enc_len s.data.toList).2
    rw [HS.out]; rw [str_len] at this; omega
  clear ho
  go_enter Trym.func10, Trym.ntmps10
  go_wp2
  go_loop [5, 6] (fun i jj => ∃ j p : Nat, j ≤ s.size ∧ i = .int .i64 p ∧ jj = .int .i64 j ∧ p ≤ o.size ∧ Hid (p = epos s j)) (fun i _ => o.size - (intOf i).toNat)
  case atStart => exact ⟨0, 0, Nat.zero_le _, rfl, rfl, Nat.zero_le _, rfl⟩
  case round =>
    obtain ⟨j, p, hj, rfl, rfl, hp, HP⟩ := hrel
    by_cases hlt : j < s.size
    · cases hpl : plain s[j].toNat with
      | true =>
        have he := eat_plain hlt hpl
        rw [← HP.out, ← HS.out, ← HO.out] at he
        obtain ⟨he1, he2⟩ := he
        have HN : Hid (p + 1 = epos s (j + 1)) := by unfold Hid; rw [epos_plain hlt hpl, HP.out]
        have v0 : o[p].toNat = s[j].toNat := by rw [bat_str]; exact he1
        have hx : ((s[j].toNat : Int) == 37) = false := by have := plain_of hpl; simp; omega
        clear he1
        go_wp2_with (go_at_call 19; refine (encPlain_any s[j].toNat w).mono ?_; rintro e w' ⟨rfl, rfl⟩)
        go_round
        case rel => exact ⟨j + 1, p + 1, hlt, by go_num, by go_num, he2, HN.out⟩
        case measure => simp [intOf]; omega
      | false =>
        have he := eat_esc hlt hpl
        rw [← HP.out, ← HS.out, ← HO.out] at he
        obtain ⟨he0, he1, he2, he3⟩ := he
        obtain ⟨A, hA⟩ : ∃ A : Nat, s[j].toNat / 16 = A := ⟨_, rfl⟩
        obtain ⟨B, hB⟩ : ∃ B : Nat, s[j].toNat % 16 = B := ⟨_, rfl⟩
        rw [hA] at he1
        rw [hB] at he2
        have hb := UInt8.toNat_lt s[j]
        have hA16 : A < 16 := by omega
        have hB16 : B < 16 := by omega
        have HN : Hid (p + 3 = epos s (j + 1)) := by unfold Hid; rw [epos_esc hlt hpl, HP.out]
        have v0 : o[p].toNat = 37 := by rw [bat_str]; exact he0
        have v1 : o[p + 1].toNat = hexd A := by rw [bat_str]; exact he1
        have v2 : o[p + 2].toNat = hexd B := by rw [bat_str]; exact he2
        have eN : (A : Int) * 16 + (B : Int) = (s[j].toNat : Int) := by omega
        have HNN : Hid (s[j].toNat < 256) := hb
        clear he0 he1 he2 hA hB hb
        go_wp2_with (first | (go_at_call_of 18 (Value.int IntKind.u8 (hexd A : Int)); refine (upper_any A w hA16).mono ?_; rintro e w' ⟨rfl, rfl⟩) | (go_at_call_of 18 (Value.int IntKind.u8 (hexd B : Int)); refine (upper_any B w hB16).mono ?_; rintro e w' ⟨rfl, rfl⟩) | (go_at_call 19; refine (encPlain_any s[j].toNat w).mono ?_; rintro e w' ⟨rfl, rfl⟩))
        go_round
        case rel => exact ⟨j + 1, p + 3, hlt, by go_num, by go_num, by omega, HN.out⟩
        case measure => simp [intOf]; omega
    · obtain rfl : j = s.size := by omega
      have hpo : p = o.size := by rw [HP.out, epos_all, HS.out]
      subst hpo
      go_wp2
      go_ret
      exact ⟨rfl, rfl⟩
end Go.Proofs.Qxb6600255aMods
