/-
  THE PROOF OF 'Rows.FnCsvFieldSafeSaid': the frame is the kit's shell; the walk is ours.
-/
import Derived.Test.Qxb6000036aModsRows
import Derived.Test.Qxb6000036aModsCommon
import Derived.WalkKit
import Derived.ProofKit
import Derived.OpenShut
import Derived.ShutString
import Derived.ChangeOld
import Derived.Below
namespace Go.Proofs.Qxb6000036aMods.fnCsvFieldSafe
open Go.ChangeShapes Go.WideShapes Go.ChangeAt Go.RowKit
open Go.ChangeMaps (open_string shut_string)
open Csv
set_option linter.unusedVariables false

set_option maxHeartbeats 1600000 in
theorem walk (a0 : Option Addr) (len0 cap0 : Nat) (z0 : List Int) (a1 : ByteArray) (w : World) (w0 : IsRow .u8 w a0 len0 cap0 z0) (w1 : a1.size ≤ maxLen) :
    Calls Trym.prog 4 #[.slice a0 len0 cap0, .string a1] w fun e w' => e = .returned (.bool true) ∧ Below w.heap.size w w' := by
  obtain ⟨b, off, l, hl, hr⟩ := isRow_rd w0
  clear w0
  by_cases hb : len0 + a1.size ≤ 1048576
  · obtain ⟨F, hF⟩ : ∃ F, (field a1.data.toList).length = F := ⟨_, rfl⟩
    have hfl := field_len a1.data.toList
    rw [hF, str_len] at hfl
    obtain ⟨hfl1, hfl2⟩ := hfl
    have HF : Hid ((field a1.data.toList).length = F) := hF
    have HL : Hid (l.length = len0) := hl
    clear hF hl
    go_enter Trym.func4, Trym.ntmps4
    go_wp2_with (go_at_call 14; refine (zz14_yes a0 len0 cap0 a1 w hb).mono ?_; rintro e w' ⟨rfl, rfl⟩)
    refine (clone_sh a0 b off len0 cap0 l w HL.out hr (by omega)).mono ?_
    rintro e w1 ⟨ao1, c1, rfl, hd1, hg1⟩
    obtain ⟨gd, hrd1⟩ := own_rdB HL.out hd1
    go_wp2_with fail
    refine (clone_sh ao1 gd 0 len0 c1 l w1 HL.out hrd1 (by omega)).mono ?_
    rintro e w2 ⟨ao2, c2, rfl, hk2, hg2⟩
    have hd2 := kept_none hd1 hg2
    have hs1 := hg1.size
    have hs2 := hg2.size
    have hB1 := below_none (Below.refl w.heap.size w) hg1 (Nat.le_refl _)
    have hB2 := below_none hB1 hg2 (by omega)
    go_wp2_with fail
    refine (zzField_sh w2 ao1 len0 c1 l a1 F HF.out HL.out hd2 (by omega) (by omega)).mono ?_
    rintro e w3 ⟨ao3, c3, rfl, ho3, hg3, hc3⟩
    have hk3 := kept_newer hd1 hk2 hg3
    have hs3 := hg3.size
    have hB3 := below_row hB2 hd2 hg3 (by omega)
    go_wp2_with fail
    refine (zzField_nil w3 a1 F HF.out (by omega)).mono ?_
    rintro e w4 ⟨ao4, c4, rfl, hal4, hg4⟩
    have hk4 := kept_none hk3 hg4
    have ho4 := kept_none ho3 hg4
    have hB4 := below_none hB3 hg4 (by omega)
    have HLL : Hid ((l ++ field a1.data.toList).length = len0 + F) := by unfold Hid; rw [List.length_append, HL.out, HF.out]
    obtain ⟨go, hro⟩ := own_rdB HLL.out ho4
    obtain ⟨gk, hrk⟩ := own_rdB HL.out hk4
    obtain ⟨ga, hra⟩ := own_rdB HF.out hal4
    clear hd1 hd2 hk2 hk3 hk4 ho3 ho4 hal4 hrd1 hg1 hg2 hg3 hg4 hB1 hB2 hB3
    go_wp2_with fail
    refine (hasPrefix_any ao3 go 0 (len0 + F) c3 (l ++ field a1.data.toList) ao2 gk 0 len0 c2 l w4 hro hrk (by omega) (by omega) (fun j hj => bat_left (by rw [HL.out]; exact hj))).mono ?_
    rintro e w5 ⟨q, rfl, rfl⟩
    by_cases hF0 : 0 < F
    · have hne : ¬ c3 = len0 := by omega
      obtain rfl := hro.addr (by omega)
      go_wp2_with fail
      have hrt : RdB (w4.drewN q) (some ⟨go, len0, none⟩) go len0 F (field a1.data.toList) := by
        have := Rd.tail HL.out HF.out (hro.drewN q) (some ⟨go, len0, none⟩) (fun _ => by rw [Nat.zero_add])
        rw [Nat.zero_add] at this
        exact this
      refine (equal_any _ go len0 F _ (field a1.data.toList) ao4 ga 0 c4 (field a1.data.toList) _ hrt (hra.drewN q) (by omega) (fun _ _ => rfl)).mono ?_
      rintro e w6 ⟨q2, rfl, rfl⟩
      have HT : Hid (RdB (w4.drewN q) (some ⟨go, len0, none⟩) go len0 F (field a1.data.toList)) := hrt
      have HB : Hid (Below w.heap.size w w4) := hB4
      clear hra hro hrk hr hrt hB4
      have hx1 : decide (F < a1.size) = false := decide_eq_false (by omega)
      have hx2 : decide (2 * (a1.size : Int) + 2 < (F : Int)) = false := decide_eq_false (by omega)
      go_wp2_with fail
      go_loop [9, 10] (fun qq i => ∃ (k : Nat) (p : Bool), k ≤ F ∧ i = .int .i64 k ∧ qq = .bool p ∧ scan p ((field a1.data.toList).drop k) = some false) (fun _ i => F - (intOf i).toNat)
      case atStart => exact ⟨0, false, Nat.zero_le _, rfl, rfl, by rw [List.drop_zero]; exact scan_field _⟩
      case round =>
        obtain ⟨k, p, hk, rfl, rfl, hsc⟩ := hrel
        have HS : Hid (scan p ((field a1.data.toList).drop k) = some false) := hsc
        clear hsc
        by_cases hlt : k < F
        · have c1 : w4.cell? ⟨go, len0 + k, none⟩ = some (.int .u8 (bat (field a1.data.toList) k)) := HT.out.cell k hlt
          have hkl : k < (field a1.data.toList).length := by rw [HF.out]; exact hlt
          cases hq : ((bat (field a1.data.toList) k : Int) == 34) with
          | true =>
            have HN : Hid (scan (!p) ((field a1.data.toList).drop (k + 1)) = some false) := by
              refine scan_quote hkl HS.out ?_
              rw [bat_eq hkl] at hq
              exact (u8_eq (n := 34) (by decide)).2 (by simp at hq; omega)
            clear hkl
            go_wp2_with fail
            go_round
            case rel => exact ⟨k + 1, !p, by omega, by go_num, rfl, HN.out⟩
            case measure => simp [intOf]; omega
          | false =>
            have HN : Hid (scan p ((field a1.data.toList).drop (k + 1)) = some false ∧ (p = false → spcN (bat (field a1.data.toList) k) = false)) := by
              have := scan_other hkl HS.out (by
                rw [bat_eq hkl] at hq
                intro e
                have := (u8_eq (n := 34) (by decide)).1 e
                simp at hq; omega)
              rw [bat_eq hkl, spcN_eq]
              exact this
            clear hkl
            cases p with
            | true =>
              go_wp2_with fail
              go_round
              case rel => exact ⟨k + 1, true, by omega, by go_num, rfl, HN.out.1⟩
              case measure => simp [intOf]; omega
            | false =>
              have hsp := HN.out.2 rfl
              go_wp2_with (go_at_call 16; refine (special_any (bat (field a1.data.toList) k) _).mono ?_; rintro e w' ⟨rfl, rfl⟩)
              go_round
              case rel => first | exact ⟨k + 1, false, by omega, by go_num, rfl, HN.out.1⟩ | (refine ⟨trivial, ?_⟩; (repeat apply Exists.intro); refine ⟨?_, rfl⟩; exact ⟨k + 1, false, by omega, by go_num, rfl, HN.out.1⟩)
              case measure => simp [intOf]; omega
        · obtain rfl : k = F := by omega
          obtain rfl : p = false := scan_end (by have := HS.out; rw [List.drop_of_length_le (by rw [HF.out]; exact Nat.le_refl _)] at this; exact this)
          go_wp2_with fail
          go_ret
          exact ⟨rfl, below_drewN HB.out _⟩
    · obtain rfl : F = 0 := by omega
      by_cases hce : c3 = len0
      all_goals
        go_wp2_with fail
        refine (equal_any _ 0 0 0 _ [] ao4 ga 0 c4 [] _ (Rd.nil _ _ _ _ _) (Rd.nil _ _ _ _ _) (by omega) (fun _ _ => rfl)).mono ?_
        rintro e w6 ⟨q2, rfl, rfl⟩
        have HB : Hid (Below w.heap.size w w4) := hB4
        clear hra hro hrk hr hB4
        go_wp2_with fail
        refine wp_loop_rounds 1 ?_
        rw [rounds_succ]
        go_wp2_with fail
        go_ret
        exact ⟨rfl, below_drewN HB.out _⟩
  · go_enter Trym.func4, Trym.ntmps4
    go_wp2_with (go_at_call 14; refine (zz14_no a0 len0 cap0 a1 w hb).mono ?_; rintro e w' ⟨rfl, rfl⟩)
    go_ret
    exact ⟨rfl, Below.refl _ _⟩

/-! ### THE ROW's STEP: WRITTEN OUT: LEAVE IT -/
set_option maxRecDepth 100000 in
theorem lifted (os : Os) (started : os.Started) (H : Type) (enc : TypeId × Value → H) :
    ReturnsInHanded {} Trym.checked os 4 .any (Rows.fnCsvFieldSafeSpec.pre6 enc Trym.prog Trym.f4 Rows.fnCsvFieldSafeRow.domain false) (Rows.fnCsvFieldSafeSpec.post enc Trym.prog Trym.f4 false true false false) := by
  refine returnsInHanded_of_change (C := Trym.checked) own started (by kernel_rfl) Trym.func4
    (ChangeSpec.witness6 (enc := enc) (C := Trym.checked) false ⟨#[], #[.slice none 0 0, .string ByteArray.empty], []⟩ 8 (by kernel_rfl) (by kernel_rfl) (by kernel_rfl) (by kernel_rfl)) ?_
  intro W base args ds gs before hval0 hW hcnd _
  have hval : ∀ (j : Nat) t v, Trym.f4.params[j]? = some t → args[j]? = some v → Value.okWide Trym.prog W .any base t v := hval0
  have hW' := hW
  obtain ⟨p, q, hA0, hV, rfl, hfz, hnd⟩ := hW
  have hA : DataW.TrodAll enc Trym.prog W 0 (fun _ => true) true Trym.f4.params.toList args.toList ds p := hA0
  rw [Trym.params4] at hA hval
  obtain ⟨v0, vs0, d0, ds0, p0, q0, hargs, rfl, rfl, h0, r0⟩ := trodAll_cons hA
  obtain ⟨v1, vs1, d1, ds1, p1, q1, rfl, rfl, rfl, h1, r1⟩ := trodAll_cons r0
  obtain ⟨rfl, rfl, rfl⟩ := trodAll_nil r1
  obtain rfl : args = #[v0, v1] := by cases args; simp_all
  obtain ⟨rfl, rfl⟩ := trodVars_none hV
  obtain ⟨a0, len0, cap0, rfl⟩ := okWide_slice Trym.underlying22 (hval 0 22 v0 rfl rfl)
  have k0 := h0
  have lt0 : ∀ x ∈ p0, x.block < W.heap.size := by obtain ⟨m, hm⟩ := k0; exact DataW.trod_lt m _ _ _ hm
  obtain ⟨z0, w0⟩ : ∃ zs, IsRow .u8 W a0 len0 cap0 zs := by
    obtain ⟨fuel, hf⟩ := h0
    rcases open_ints Trym.underlying22 Trym.underlying5 (by kernel_rfl) hf with ⟨hcs, _⟩ | ⟨x, l, c, zs, hcs, _, hl, hm, hz, _, hcell, hwz⟩
    · simp [Value.cells] at hcs
      obtain ⟨rfl, rfl, rfl⟩ := hcs
      exact ⟨[], .inl ⟨rfl, rfl, rfl, rfl⟩⟩
    · simp [Value.cells] at hcs
      obtain ⟨rfl, rfl, rfl⟩ := hcs
      exact ⟨zs, .inr ⟨_, rfl, hl, hm, by simpa using hz, hcell, hwz⟩⟩
  obtain ⟨a1, rfl, rfl, rfl, w1⟩ := open_string Trym.underlying9 (hval 1 9 v1 rfl rfl) h1
  clear hA0 hval0
  refine (walk a0 len0 cap0 z0 a1 W w0 w1).mono fun e W' ⟨he, bel⟩ => ?_
  subst he
  exact ⟨_, rfl, _, _, _, [], _, [], hW', trodAll_mk1 (shut_bool Trym.underlying4 _), (trodAll_cons_mk (Below.trod laidOut (by kernel_rfl) (of_decide_eq_true (by kernel_rfl)) k0 bel lt0) (trodAll_cons_mk (shut_string Trym.underlying9 w1) trodAll_mk0)), rfl, bel.frame _, fun h => by cases h⟩

theorem over : Rows.fnCsvFieldSafeRow.holds Trym.pinned (OpenSpec.ofChange Rows.fnCsvFieldSafeSpec) :=
  OpenClaim.holds_of_wide 4 Trym.f4 rfl rfl rfl rfl rfl rfl rfl ⟨rfl, rfl, rfl, rfl, rfl⟩ rfl rfl rfl rfl rfl (by kernel_rfl) Trym.func4 (by kernel_rfl)
    (of_decide_eq_true (by kernel_rfl)) (by unfold Func.isWrapper; first | (rw [if_pos (by decide +kernel)]; kernel_rfl) | (rw [if_neg (by decide +kernel)]; exact ⟨rfl, rfl⟩))
    (fun os started H enc _ => lifted os started H enc)

/-- ████ THE STATEMENT ████ -/
theorem proved : Rows.FnCsvFieldSafeSaid := over
end Go.Proofs.Qxb6000036aMods.fnCsvFieldSafe
