/-
  THE PROOF OF 'Rows.FnCsvFieldExactSaid': the frame is the kit's shell; the walk is ours.
-/
import Derived.Test.Qxb6000036aModsRows
import Derived.Test.Qxb6000036aModsDecode
import Derived.WalkKit
import Derived.ProofKit
import Derived.OpenShut
import Derived.ShutString
import Derived.ChangeOld
import Derived.Below
namespace Go.Proofs.Qxb6000036aMods.fnCsvFieldExact
open Go.ChangeShapes Go.WideShapes Go.ChangeAt Go.RowKit
open Go.ChangeMaps (open_string shut_string)
open Csv
set_option linter.unusedVariables false

/-- The bytes of a slice that is read, turned into a string. -/
theorem conv_rd {w : World} {ao : Option Addr} {b off n cap : Nat} {s : ByteArray} (hn : s.size = n) (h : RdB w ao b off n s.data.toList) :
    (convert 22 9 (.slice ao n cap)).run Trym.prog w = .ok (.string s) w := by
  rcases Nat.eq_zero_or_pos n with h0 | h0
  · subst h0
    have hs : s = ByteArray.empty := by simpa using hn
    subst hs
    rw [run_convert_bytes_string w 22 9 5 ao 0 cap Trym.underlying22 Trym.underlying5 Trym.underlying9]
    cases ao <;> rfl
  · obtain rfl := h.addr h0
    have := run_convert_bytes_back (P := Trym.prog) w 22 9 5 ⟨b, off, none⟩ cap s.data.toList Trym.underlying22 Trym.underlying5 Trym.underlying9 (fun j hj => by
      rw [Addr.add_lit, h.cell j (by rw [str_len] at hj; omega), bat_eq hj])
    rw [str_len, hn, str_back] at this
    exact this

set_option maxHeartbeats 1600000 in
theorem walk (a0 : Option Addr) (len0 cap0 : Nat) (z0 : List Int) (a1 : ByteArray) (w : World) (w0 : IsRow .u8 w a0 len0 cap0 z0) (w1 : a1.size ≤ maxLen) :
    Calls Trym.prog 3 #[.slice a0 len0 cap0, .string a1] w fun e w' => e = .returned (.bool true) ∧ Below w.heap.size w w' := by
  obtain ⟨b, off, l, hl, hr⟩ := isRow_rd w0
  clear w0
  by_cases hb : len0 + a1.size ≤ 1048576
  · obtain ⟨F, hF⟩ : ∃ F, (field a1.data.toList).length = F := ⟨_, rfl⟩
    have hfl := field_len a1.data.toList
    rw [hF, str_len] at hfl
    obtain ⟨hfl1, hfl2⟩ := hfl
    have HF : Hid ((field a1.data.toList).length = F) := hF
    have HL : Hid (l.length = len0) := hl
    clear hF hl
    go_enter Trym.func3, Trym.ntmps3
    go_wp2_with (go_at_call 8; refine (zz8_yes a0 len0 cap0 a1 w hb).mono ?_; rintro e w' ⟨rfl, rfl⟩)
    refine (clone_sh a0 b off len0 cap0 l w HL.out hr (by omega)).mono ?_
    rintro e w1 ⟨ao1, c1, rfl, hd1, hg1⟩
    obtain ⟨gd, hrd1⟩ := own_rdB HL.out hd1
    go_wp2_with fail
    refine (clone_sh ao1 gd 0 len0 c1 l w1 HL.out hrd1 (by omega)).mono ?_
    rintro e w2 ⟨ao2, c2, rfl, hk2, hg2⟩
    have hd2 := kept_none hd1 hg2
    have hs1 := hg1.size
    have hs2 := hg2.size
    have hB1 := below_none (Below.refl w.heap.size w) hg1 (Nat.le_refl _)
    have hB2 := below_none hB1 hg2 (by omega)
    go_wp2_with fail
    refine (zzField_sh w2 ao1 len0 c1 l a1 F HF.out HL.out hd2 (by omega) (by omega)).mono ?_
    rintro e w3 ⟨ao3, c3, rfl, ho3, hg3, hc3⟩
    have hk3 := kept_newer hd1 hk2 hg3
    have hs3 := hg3.size
    have hB3 := below_row hB2 hd2 hg3 (by omega)
    have HLL : Hid ((l ++ field a1.data.toList).length = len0 + F) := by unfold Hid; rw [List.length_append, HL.out, HF.out]
    obtain ⟨go, hro⟩ := own_rdB HLL.out ho3
    obtain ⟨gk, hrk⟩ := own_rdB HL.out hk3
    clear hd1 hd2 hk2 hk3 ho3 hrd1 hg1 hg2 hg3 hB1 hB2
    go_wp2_with fail
    refine (hasPrefix_any ao3 go 0 (len0 + F) c3 (l ++ field a1.data.toList) ao2 gk 0 len0 c2 l w3 hro hrk (by omega) (by omega) (fun j hj => bat_left (by rw [HL.out]; exact hj))).mono ?_
    rintro e w5 ⟨q, rfl, rfl⟩
    have HB : Hid (Below w.heap.size w w3) := hB3
    clear hB3 hrk hr
    cases hsp : hasSpc a1.data.toList with
    | false =>
      have HFS : Hid (a1.size = F) := by unfold Hid; rw [← HF.out, field_neg _ hsp, str_len]
      have hrt : ∀ ao', (0 < F → ao' = some ⟨go, len0, none⟩) → ∀ c, (convert 22 9 (.slice ao' F c)).run Trym.prog (w3.drewN q) = .ok (.string a1) (w3.drewN q) := by
        intro ao' ha c
        have h1 := Rd.tail HL.out HF.out (hro.drewN q) ao' (fun h => by rw [Nat.zero_add]; exact ha h)
        rw [field_neg _ hsp] at h1
        exact conv_rd HFS.out h1
      have HRT : Hid (∀ ao', (0 < F → ao' = some ⟨go, len0, none⟩) → ∀ c, (convert 22 9 (.slice ao' F c)).run Trym.prog (w3.drewN q) = .ok (.string a1) (w3.drewN q)) := hrt
      clear hrt
      by_cases hF0 : 0 < F
      · have hne : ¬ c3 = len0 := by omega
        obtain rfl := hro.addr (by omega)
        clear hro
        have hcv := HRT.out (some ⟨go, len0, none⟩) (fun _ => rfl)
        go_wp2_with (go_at_call 12; refine (hasSpecial_any a1 _ (by omega)).mono ?_; rintro e w' ⟨rfl, rfl⟩)
        go_ret
        exact ⟨rfl, below_drewN HB.out _⟩
      · obtain rfl : F = 0 := by omega
        have hcv := fun ao' => HRT.out ao' (fun h => absurd h (by omega))
        clear hro
        by_cases hce : c3 = len0
        all_goals
          go_wp2_with (go_at_call 12; refine (hasSpecial_any a1 _ (by omega)).mono ?_; rintro e w' ⟨rfl, rfl⟩)
          go_ret
          exact ⟨rfl, below_drewN HB.out _⟩
    | true =>
      have HP := field_pos _ hsp
      have hF2 : 2 ≤ F := by rw [← HF.out, HP]; simp
      have HFP : Hid (field a1.data.toList = 34 :: (body a1.data.toList ++ [34])) := HP
      clear HP
      have hne : ¬ c3 = len0 := by omega
      obtain rfl := hro.addr (by omega)
      have hrt : RdB (w3.drewN q) (some ⟨go, len0, none⟩) go len0 F (field a1.data.toList) := by
        have := Rd.tail HL.out HF.out (hro.drewN q) (some ⟨go, len0, none⟩) (fun _ => by rw [Nat.zero_add])
        rw [Nat.zero_add] at this
        exact this
      have hqF : qpos 0 a1.data.toList a1.size + 1 = F := by
        rw [qpos_all, ← HF.out, HFP.out]
        simp only [List.length_cons, List.length_append, List.length_nil]; omega
      have hx1 : ((F : Int) == 0) = false := by simp; omega
      have hx2 : (w3.drewN q).cell? ⟨go, len0, none⟩ = some (.int .u8 34) := by
        have := hrt.cell 0 (by omega)
        rw [Nat.add_zero] at this
        rw [this, HFP.out]; rfl
      have HRT : Hid (RdB (w3.drewN q) (some ⟨go, len0, none⟩) go len0 F (field a1.data.toList)) := hrt
      have HQF : Hid (qpos 0 a1.data.toList a1.size + 1 = F) := hqF
      clear hro hrt hqF
      go_wp2_with (go_at_call 12; refine (hasSpecial_any a1 _ (by omega)).mono ?_; rintro e w' ⟨rfl, rfl⟩)
      have hdec := decode_quoted go len0 F (c3 - len0) 0 (field a1.data.toList) [] a1 (w3.drewN q) HF.out HRT.out (by omega) (by rw [List.drop_zero]; exact HFP.out) (fun c r h => by cases h)
      rw [HQF.out, show ((0 : Nat) : Int) = 0 from rfl] at hdec
      refine hdec.mono ?_
      clear hdec
      rintro e w6 ⟨rfl, hg6⟩
      go_wp2_with fail
      go_ret
      exact ⟨rfl, below_none (below_drewN HB.out q) hg6 (by show w.heap.size ≤ w3.heap.size; omega)⟩
  · go_enter Trym.func3, Trym.ntmps3
    go_wp2_with (go_at_call 8; refine (zz8_no a0 len0 cap0 a1 w hb).mono ?_; rintro e w' ⟨rfl, rfl⟩)
    go_ret
    exact ⟨rfl, Below.refl _ _⟩

/-! ### THE ROW's STEP: WRITTEN OUT: LEAVE IT -/
set_option maxRecDepth 100000 in
theorem lifted (os : Os) (started : os.Started) (H : Type) (enc : TypeId × Value → H) :
    ReturnsInHanded {} Trym.checked os 3 .any (Rows.fnCsvFieldExactSpec.pre6 enc Trym.prog Trym.f3 Rows.fnCsvFieldExactRow.domain false) (Rows.fnCsvFieldExactSpec.post enc Trym.prog Trym.f3 false true false false) := by
  refine returnsInHanded_of_change (C := Trym.checked) own started (by kernel_rfl) Trym.func3
    (ChangeSpec.witness6 (enc := enc) (C := Trym.checked) false ⟨#[], #[.slice none 0 0, .string ByteArray.empty], []⟩ 8 (by kernel_rfl) (by kernel_rfl) (by kernel_rfl) (by kernel_rfl)) ?_
  intro W base args ds gs before hval0 hW hcnd _
  have hval : ∀ (j : Nat) t v, Trym.f3.params[j]? = some t → args[j]? = some v → Value.okWide Trym.prog W .any base t v := hval0
  have hW' := hW
  obtain ⟨p, q, hA0, hV, rfl, hfz, hnd⟩ := hW
  have hA : DataW.TrodAll enc Trym.prog W 0 (fun _ => true) true Trym.f3.params.toList args.toList ds p := hA0
  rw [Trym.params3] at hA hval
  obtain ⟨v0, vs0, d0, ds0, p0, q0, hargs, rfl, rfl, h0, r0⟩ := trodAll_cons hA
  obtain ⟨v1, vs1, d1, ds1, p1, q1, rfl, rfl, rfl, h1, r1⟩ := trodAll_cons r0
  obtain ⟨rfl, rfl, rfl⟩ := trodAll_nil r1
  obtain rfl : args = #[v0, v1] := by cases args; simp_all
  obtain ⟨rfl, rfl⟩ := trodVars_none hV
  obtain ⟨a0, len0, cap0, rfl⟩ := okWide_slice Trym.underlying22 (hval 0 22 v0 rfl rfl)
  have k0 := h0
  have lt0 : ∀ x ∈ p0, x.block < W.heap.size := by obtain ⟨m, hm⟩ := k0; exact DataW.trod_lt m _ _ _ hm
  obtain ⟨z0, w0⟩ : ∃ zs, IsRow .u8 W a0 len0 cap0 zs := by
    obtain ⟨fuel, hf⟩ := h0
    rcases open_ints Trym.underlying22 Trym.underlying5 (by kernel_rfl) hf with ⟨hcs, _⟩ | ⟨x, l, c, zs, hcs, _, hl, hm, hz, _, hcell, hwz⟩
    · simp [Value.cells] at hcs
      obtain ⟨rfl, rfl, rfl⟩ := hcs
      exact ⟨[], .inl ⟨rfl, rfl, rfl, rfl⟩⟩
    · simp [Value.cells] at hcs
      obtain ⟨rfl, rfl, rfl⟩ := hcs
      exact ⟨zs, .inr ⟨_, rfl, hl, hm, by simpa using hz, hcell, hwz⟩⟩
  obtain ⟨a1, rfl, rfl, rfl, w1⟩ := open_string Trym.underlying9 (hval 1 9 v1 rfl rfl) h1
  clear hA0 hval0
  refine (walk a0 len0 cap0 z0 a1 W w0 w1).mono fun e W' ⟨he, bel⟩ => ?_
  subst he
  exact ⟨_, rfl, _, _, _, [], _, [], hW', trodAll_mk1 (shut_bool Trym.underlying4 _), (trodAll_cons_mk (Below.trod laidOut (by kernel_rfl) (of_decide_eq_true (by kernel_rfl)) k0 bel lt0) (trodAll_cons_mk (shut_string Trym.underlying9 w1) trodAll_mk0)), rfl, bel.frame _, fun h => by cases h⟩

theorem over : Rows.fnCsvFieldExactRow.holds Trym.pinned (OpenSpec.ofChange Rows.fnCsvFieldExactSpec) :=
  OpenClaim.holds_of_wide 3 Trym.f3 rfl rfl rfl rfl rfl rfl rfl ⟨rfl, rfl, rfl, rfl, rfl⟩ rfl rfl rfl rfl rfl (by kernel_rfl) Trym.func3 (by kernel_rfl)
    (of_decide_eq_true (by kernel_rfl)) (by unfold Func.isWrapper; first | (rw [if_pos (by decide +kernel)]; kernel_rfl) | (rw [if_neg (by decide +kernel)]; exact ⟨rfl, rfl⟩))
    (fun os started H enc _ => lifted os started H enc)

/-- ████ THE STATEMENT ████ -/
theorem proved : Rows.FnCsvFieldExactSaid := over
end Go.Proofs.Qxb6000036aMods.fnCsvFieldExact
