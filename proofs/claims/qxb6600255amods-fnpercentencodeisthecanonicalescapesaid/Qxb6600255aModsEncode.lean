/-
  THE WALK OF percentEncode (17), ITS FRONT ZZpercentEncode (9), passesUnencoded (22).
-/
import Derived.Test.Qxb6600255aModsProg
import Derived.Test.Qxb6600255aModsMem
import Derived.Test.Qxb6600255aModsPlain
import Derived.WalkSpells
import Derived.Laws.IdiomStrings
import Derived.Deep.RegionLaw
import Derived.KernelRfl
namespace Go.Proofs.Qxb6600255aMods
open Go.RowKit Enc

theorem Trym.info5 : (Trym.prog.info? 5).map (fun i => (i.zero, i.size, i.bytes)) = some (some (.int .u8 0), 1, 1) := by kernel_rfl

theorem str_len (s : ByteArray) : s.data.toList.length = s.size := by simp
theorem str_take_snoc (s : ByteArray) (k : Nat) (h : k < s.size) : s.data.toList.take (k + 1) = s.data.toList.take k ++ [s[k]] := by
  rw [List.take_succ_eq_append_getElem (by simpa using h)]; rfl
theorem one_u8 (n : Int) : ∀ u ∈ [Value.int .u8 n], u.oneCell' = true := by
  intro u hu; simp at hu; subst hu; rfl
theorem ret_bool {a b : Bool} (h : a = b) : Ending.returned (.bool a) = .returned (.bool b) := by rw [h]
theorem ret_str {a b : ByteArray} (h : a = b) : Ending.returned (.string a) = .returned (.string b) := by rw [h]

theorem passes_any (n : Nat) (w : World) :
    Calls Trym.prog 22 #[.int .u8 (n : Int)] w fun e w' => e = .returned (.bool (plain n)) ∧ w = w' := by
  by_cases h1 : 32 ≤ n
  · by_cases h2 : n ≤ 126
    · by_cases h3 : n = 37
      · have h3' : ((n : Int) != 37) = false := by simp; omega
        have h1' : (32 : Int) ≤ (n : Int) := by omega
        have h2' : (n : Int) ≤ 126 := by omega
        go_enter Trym.func22, Trym.ntmps22
        go_wp2
        go_ret
        exact ⟨ret_bool (by rw [plain_no (by omega)]), rfl⟩
      · have h3' : ((n : Int) != 37) = true := by simp; omega
        have h1' : (32 : Int) ≤ (n : Int) := by omega
        have h2' : (n : Int) ≤ 126 := by omega
        go_enter Trym.func22, Trym.ntmps22
        go_wp2
        go_ret
        exact ⟨ret_bool (by rw [plain_yes (by omega)]), rfl⟩
    · have h1' : (32 : Int) ≤ (n : Int) := by omega
      have h2' : decide ((n : Int) ≤ 126) = false := decide_eq_false (by omega)
      go_enter Trym.func22, Trym.ntmps22
      go_wp2
      go_ret
      exact ⟨ret_bool (by rw [plain_no (by omega)]), rfl⟩
  · have h1' : decide ((32 : Int) ≤ (n : Int)) = false := decide_eq_false (by omega)
    go_enter Trym.func22, Trym.ntmps22
    go_wp2
    go_ret
    exact ⟨ret_bool (by rw [plain_no (by omega)]), rfl⟩

/-- Bytes counted so far. -/
def cupto (s : ByteArray) (k : Nat) : Nat := cnt (s.data.toList.take k)
theorem cupto_le (s : ByteArray) (k : Nat) : cupto s k ≤ k := by
  have h1 := cnt_le (s.data.toList.take k)
  have h2 : (s.data.toList.take k).length ≤ k := List.length_take_le _ _
  unfold cupto; omega
theorem cupto_plain {s : ByteArray} {k : Nat} (h : k < s.size) (hp : plain s[k].toNat = true) : cupto s (k + 1) = cupto s k := by
  unfold cupto; rw [str_take_snoc s k h, cnt_snoc, if_pos hp]; rfl
theorem cupto_esc {s : ByteArray} {k : Nat} (h : k < s.size) (hp : plain s[k].toNat = false) : cupto s (k + 1) = cupto s k + 1 := by
  unfold cupto; rw [str_take_snoc s k h, cnt_snoc, if_neg (by simp [hp])]
theorem cupto_all (s : ByteArray) : cupto s s.size = cnt s.data.toList := by
  unfold cupto; rw [List.take_of_length_le (by simp)]

/-- A row that has just been made. -/
theorem gr_made {w w' : World} {e : TypeId} {n : Nat} (ho : w'.ownsRow w.heap.size e 1 (.slice (some ⟨w.heap.size, 0, none⟩) 0 n) 0 []) (hg : w.grownBy w' none) : Gr w none w.heap.size e w' (.slice (some ⟨w.heap.size, 0, none⟩) 0 n) [] :=
  ⟨ho, hg, fun k hk => .inr (by simp [Value.ownBlock] at hk; omega), hg.size⟩

theorem hex_all : ∀ j : Fin 16, ((⟨#[48, 49, 50, 51, 52, 53, 54, 55, 56, 57, 65, 66, 67, 68, 69, 70]⟩ : ByteArray)[j.val]'j.isLt).toNat = hexd j.val := by decide
theorem hex_at {j : Nat} (h : j < 16) : ∀ h', ((⟨#[48, 49, 50, 51, 52, 53, 54, 55, 56, 57, 65, 66, 67, 68, 69, 70]⟩ : ByteArray)[j]'h').toNat = hexd j := fun _ => hex_all ⟨j, h⟩
theorem three_u8 (a b c : Int) : ∀ u ∈ [Value.int .u8 a, Value.int .u8 b, Value.int .u8 c], u.oneCell' = true := by
  intro u hu
  simp at hu
  rcases hu with rfl | rfl | rfl <;> rfl
/-- The three cells of a block that has just been laid, behind a draw. -/
theorem cell_three_new (w : World) (a b c : Value) (t : TypeId) : ∀ j u, [a, b, c][j]? = some u → (w.alloc (.cells #[a, b, c] t)).drew.cell? ((⟨w.heap.size, 0, none⟩ : Addr).add j) = some u := by
  intro j u hj
  match j, hj with
  | 0, hj => simp at hj; subst hj; simp [Addr.add]
  | 1, hj => simp at hj; subst hj; simp [Addr.add]
  | 2, hj => simp at hj; subst hj; simp [Addr.add]
  | j + 3, hj => simp at hj
theorem Gr.drew {W : World} {row : Option Nat} {base : Nat} {e : TypeId} {w : World} {v : Value} {xs : List Value} (h : Gr W row base e w v xs) : Gr W row base e w.drew v xs :=
  ⟨h.own, ⟨h.grown.os, h.grown.tape, h.grown.output, h.grown.size, h.grown.block⟩, h.lies, h.big⟩

/-- The slice's shape, and its bytes turned into a string. -/
theorem conv_gr {W : World} {row : Option Nat} {base : Nat} {w : World} {v : Value} {l : List UInt8} (h : Gr W row base 5 w v (bys l)) :
    ∃ ao cap, v = .slice ao l.length cap ∧ (convert 29 9 (.slice ao l.length cap)).run Trym.prog w = .ok (.string ⟨l.toArray⟩) w := by
  have ho := h.own
  rw [bys_len] at ho
  rcases ho.2 with ⟨h1, h2⟩ | ⟨g, cap, cur, hv, hb, hg, hn, hc, hs, ht⟩
  · obtain rfl : l = [] := List.eq_nil_of_length_eq_zero h2
    refine ⟨none, 0, h1, ?_⟩
    rw [run_convert_bytes_string w 29 9 5 none _ _ Trym.underlying29 Trym.underlying5 Trym.underlying9]
    rfl
  · refine ⟨_, cap, hv, run_convert_bytes_back w 29 9 5 ⟨g, 0, none⟩ cap l Trym.underlying29 Trym.underlying5 Trym.underlying9 (fun j hj => ?_)⟩
    subst hv
    rw [Addr.add_lit, Nat.zero_add, ho.cellAt j (by omega), bys_at hj, bat_eq hj]

set_option maxHeartbeats 1600000 in
theorem encode_any (s : ByteArray) (w : World) (hs : s.size ≤ 1048576) :
    Calls Trym.prog 17 #[.string s] w fun e w' => e = .returned (.string ⟨(enc s.data.toList).toArray⟩) ∧ w.grownBy w' none := by
  obtain ⟨i0, hi, hz0, hz1, hz2⟩ := info_parts Trym.info5
  go_enter Trym.func17, Trym.ntmps17
  go_wp2
  go_loop [3, 4] (fun t i => ∃ k m : Nat, k ≤ s.size ∧ i = .int .i64 k ∧ t = .int .i64 m ∧ m ≤ k ∧ Hid (m = cupto s k)) (fun _ i => s.size - (intOf i).toNat)
  case atStart => exact ⟨0, 0, Nat.zero_le _, rfl, rfl, Nat.le_refl _, rfl⟩
  case round =>
    obtain ⟨k, m, hk, rfl, rfl, hm, HM⟩ := hrel
    by_cases hlt : k < s.size
    · cases hp : plain s[k].toNat with
      | true =>
        have HP : Hid (cupto s (k + 1) = cupto s k) := cupto_plain hlt hp
        go_wp2_with (go_at_call 22; refine (passes_any s[k].toNat w).mono ?_; rintro e w' ⟨rfl, rfl⟩)
        go_round
        case rel => exact ⟨k + 1, m, hlt, by go_num, rfl, by omega, by unfold Hid; rw [HP.out, HM.out]⟩
        case measure => simp [intOf]; omega
      | false =>
        have HP : Hid (cupto s (k + 1) = cupto s k + 1) := cupto_esc hlt hp
        go_wp2_with (go_at_call 22; refine (passes_any s[k].toNat w).mono ?_; rintro e w' ⟨rfl, rfl⟩)
        go_round
        case rel => exact ⟨k + 1, m + 1, hlt, by go_num, by go_num, by omega, by unfold Hid; rw [HP.out, HM.out]⟩
        case measure => simp [intOf]; omega
    · obtain rfl : k = s.size := by omega
      by_cases hm0 : m = 0
      · subst hm0
        have HE : Hid (enc s.data.toList = s.data.toList) := cnt_zero (by rw [← cupto_all, ← HM.out])
        go_wp2
        go_ret
        exact ⟨ret_str (by rw [HE.out]), World.grownBy.refl _ _⟩
      · have hm0' : ((m : Int) == 0) = false := by simp; omega
        go_wp2_with (at_make; refine wpList_make_own _ rfl _ (.tmp 28) 29 rfl w.heap.size 5 i0 (.int .u8 0) 1 Trym.underlying29 hi hz0 hz1 .i64 .i64 _ (s.size + 2 * m) rfl rfl (by omega) (by rw [hz2]; omega) (by unfold maxLen; omega) (Nat.le_refl _) ?_)
        intro w1 ho1 hg1
        have g1 : Gr w none w.heap.size 5 w1 (.slice (some ⟨w.heap.size, 0, none⟩) 0 (s.size + 2 * m)) (bys (enc (s.data.toList.take 0))) := gr_made ho1 hg1
        clear ho1 hg1
        go_wp2
        go_loopw [5, 6] (fun v i wr => ∃ k : Nat, k ≤ s.size ∧ i = .int .i64 k ∧ Gr w none w.heap.size 5 wr v (bys (enc (s.data.toList.take k)))) (fun _ i _ => s.size - (intOf i).toNat)
        case atStart => exact ⟨0, Nat.zero_le _, rfl, g1⟩
        case round =>
          obtain ⟨k, hk, rfl, gk⟩ := hrel
          clear g1
          have hlen : Hid ((bys (enc (s.data.toList.take k))).length ≤ 3 * k) := by
            unfold Hid
            have h1 := (enc_len (s.data.toList.take k)).2
            have h2 : (s.data.toList.take k).length ≤ k := List.length_take_le _ _
            rw [bys_len]; omega
          by_cases hlt : k < s.size
          · cases hp : plain s[k].toNat with
            | true =>
              have HP : Hid (bys (enc (s.data.toList.take k)) ++ [.int .u8 s[k].toNat] = bys (enc (s.data.toList.take (k + 1)))) := by
                unfold Hid; rw [str_take_snoc s k hlt, enc_snoc, tok_plain hp, bys_append]; rfl
              go_wp2_with (first | (go_at_call 22; refine (passes_any s[k].toNat wr).mono ?_; rintro e w' ⟨rfl, rfl⟩) | (at_builtin; refine wpList_append_gr _ rfl (.tmp 41) (.tmp 43) 29 rfl i0 (.int .u8 0) 1 Trym.underlying29 hi hz0 hz1 hz2 rfl rfl (gk.alloc _) ⟨wr.heap.size, 0, none⟩ 1 1 [.int .u8 s[k].toNat] rfl rfl (cell_one_new _ _ _) (one_u8 _) (by have := hlen.out; omega) (by have := hlen.out; unfold maxLen; omega) ?_))
              intro v2 w2 g2
              rw [HP.out] at g2
              go_wp2
              go_roundw
              case rel => exact ⟨k + 1, hlt, by go_num, g2⟩
              case measure => simp [intOf]; omega
            | false =>
              obtain ⟨A, hA⟩ : ∃ A : Nat, s[k].toNat / 16 = A := ⟨_, rfl⟩
              obtain ⟨B, hB⟩ : ∃ B : Nat, s[k].toNat % 16 = B := ⟨_, rfl⟩
              have hb := UInt8.toNat_lt s[k]
              have hA16 : A < 16 := by omega
              have hB16 : B < 16 := by omega
              have HP : Hid (bys (enc (s.data.toList.take k)) ++ [.int .u8 37, .int .u8 (hexd A), .int .u8 (hexd B)] = bys (enc (s.data.toList.take (k + 1)))) := by
                unfold Hid
                rw [str_take_snoc s k hlt, enc_snoc, tok_esc hp, bys_append, hA, hB]
                simp only [bys, List.map_cons, List.map_nil, hexd_nat hA16, hexd_nat hB16]
                rfl
              have eA : (s[k].toNat : Int) / 16 = (A : Int) := by omega
              have eB : bits BinOp.and IntKind.u8 (s[k].toNat : Int) 15 = (B : Int) := by rw [u8_and15 _ (by omega) (by omega)]; omega
              have vA : ∀ h, ((⟨#[48, 49, 50, 51, 52, 53, 54, 55, 56, 57, 65, 66, 67, 68, 69, 70]⟩ : ByteArray)[A]'h).toNat = hexd A := hex_at hA16
              have vB : ∀ h, ((⟨#[48, 49, 50, 51, 52, 53, 54, 55, 56, 57, 65, 66, 67, 68, 69, 70]⟩ : ByteArray)[B]'h).toNat = hexd B := hex_at hB16
              have iA : (A : Int) < 16 := by omega
              have iB : (B : Int) < 16 := by omega
              clear hA hB hb
              go_wp2_with (go_at_call 22; refine (passes_any s[k].toNat wr).mono ?_; rintro e w' ⟨rfl, rfl⟩)
              go_region_law ((refine step_append_gr _ rfl (.tmp 45) (.tmp 52) 29 rfl i0 (.int .u8 0) 1 Trym.underlying29 hi hz0 hz1 hz2 rfl u5 (bys (enc (s.data.toList.take k))) (by simp [Act.eval]) (gk.alloc _).drew ⟨wr.heap.size, 0, none⟩ 3 3 [.int .u8 37, .int .u8 (hexd A), .int .u8 (hexd B)] (by simp [Act.eval]) rfl (cell_three_new _ _ _ _ _) (three_u8 _ _ _) (by have := hlen.out; omega) (by have := hlen.out; unfold maxLen; omega) ?_; intro v2 w2 g2))
              all_goals
                rw [HP.out] at g2
                go_wp2
                go_roundw
                case rel => exact ⟨k + 1, hlt, by go_num, g2⟩
                case measure => simp [intOf]; omega
          · obtain rfl : k = s.size := by omega
            rw [List.take_of_length_le (by simp)] at gk
            obtain ⟨a5, c5, hv5, hcv⟩ := conv_gr gk
            subst hv5
            have HG : Hid (w.grownBy wr none) := gk.grown
            clear gk hlen
            go_wp2
            go_ret
            exact ⟨rfl, HG.out⟩

theorem zzEncode_any (s : ByteArray) (w : World) (hs : s.size ≤ 1048576) :
    Calls Trym.prog 9 #[.string s] w fun e w' => e = .returned (.string ⟨(enc s.data.toList).toArray⟩) ∧ w.grownBy w' none := by
  go_enter Trym.func9, Trym.ntmps9
  go_wp2_with (go_at_call 17; refine (encode_any s w hs).mono ?_; rintro e w' ⟨rfl, hg⟩)
  go_ret
  exact ⟨rfl, hg⟩
end Go.Proofs.Qxb6600255aMods
