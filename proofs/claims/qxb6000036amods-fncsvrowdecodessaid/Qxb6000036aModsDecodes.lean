/-
  THE WALK OF FnCsvRowDecodes (5).
-/
import Derived.Test.Qxb6000036aModsDecodeRow
import Derived.Deep.QuietTactic
import Derived.BigQuiet
namespace Go.Proofs.Qxb6000036aMods
open Go.RowKit Csv

theorem other_block (v : Value) : ∃ b, v.ownBlock ≠ some b := by
  cases h : v.ownBlock with
  | none => exact ⟨0, by simp⟩
  | some k => exact ⟨k + 1, by simp⟩

theorem rowOf_none : rowOf (fsOf []) = [10] := rfl

/-! No fields: the bare line end. -/
set_option maxHeartbeats 3200000 in
set_option maxRecDepth 100000 in
theorem decodes_none (a0 : Option Addr) (b0 off0 n0 cap0 : Nat) (l : List UInt8) (a1 : Option Addr) (cap1 : Nat) (w : World)
    (hl0 : l.length = n0) (hr0 : RdB w a0 b0 off0 n0 l) (h0 : n0 ≤ 9223372036854775807) :
    Calls Trym.prog 5 #[.slice a0 n0 cap0, .slice a1 0 cap1] w fun e w' => e = .returned (.bool true) ∧ Below w.heap.size w w' := by
  have H0 : Hid (l.length = n0) := hl0
  clear hl0
  obtain ⟨i9, hi9, hz90, hz91, hz92⟩ := info_parts Trym.info9
  have hnz := fun (wx : World) (a : Option Addr) (n c : Nat) => run_neq_slice_nil_any (P := Trym.prog) wx 31 9 a n c 0 0 Trym.underlying31
  have hsz : ∀ j, (sat [] j).size ≤ 9223372036854775807 := fun j => by simp [sat]
  go_enter Trym.func5, Trym.ntmps5
  go_wp2_with fail
  refine (zz17_any a0 n0 cap0 a1 0 0 0 cap1 [] w h0 (by omega) rfl (Rd.nil _ _ _ _ _) hsz).mono ?_
  clear hsz
  rintro e w' ⟨⟨r, rfl, hB⟩, rfl⟩
  cases r with
  | false =>
    clear hB
    go_wp2_with fail
    go_ret
    exact ⟨rfl, Below.refl _ _⟩
  | true =>
    have hB' : n0 ≤ 1048576 := by have := hB rfl; omega
    clear hB
    go_wp2_with fail
    refine (stringsBytes_any a1 0 0 0 cap1 [] w (Rd.nil _ _ _ _ _) (by omega)).mono ?_
    rintro e w' ⟨m1, rfl, rfl, hm1⟩
    by_cases h5 : 1048576 < n0 + m1
    · go_wp2_with fail
      go_ret
      exact ⟨rfl, Below.refl _ _⟩
    cases a1 with
    | none =>
      have hBS := Below.refl w.heap.size w
      have hrS := hr0
      clear hr0
      go_wp2_with fail
      refine (clone_sh a0 b0 off0 n0 cap0 l w H0.out hrS (by omega)).mono ?_
      rintro e w1 ⟨ao1, c1, rfl, hd1, hg1⟩
      obtain ⟨gd, hrd1⟩ := own_rdB H0.out hd1
      go_wp2_with fail
      refine (clone_sh ao1 gd 0 n0 c1 l w1 H0.out hrd1 (by omega)).mono ?_
      rintro e w2 ⟨ao2, c2, rfl, hk2, hg2⟩
      have hd2 := kept_none hd1 hg2
      have hs0 := hBS.size
      have hs1 := hg1.size
      have hs2 := hg2.size
      have hB1 := below_none hBS hg1 (by omega)
      have hB2 := below_none hB1 hg2 (by omega)
      obtain ⟨bb, hbb⟩ := other_block (Value.slice ao1 n0 c1)
      go_wp2_with fail
      refine (zzRow_sh w2 ao1 n0 c1 l H0.out hd2 (by omega) _ bb 0 0 _ [] rfl (Rd.nil _ _ _ _ _) hbb 1 rfl (by simp [fsOf, tot]; omega)).mono ?_
      rintro e w3 ⟨ao3, c3, rfl, ho3, hg3, hc3⟩
      have hk3 := kept_newer hd1 hk2 hg3
      have hs3 := hg3.size
      have hB3 := hB2.grown hg3 (by omega) (fun k hk => by have := (hd2.lt k hk).1; omega)
      have HLL : Hid ((l ++ rowOf (fsOf [])).length = n0 + 1) := by unfold Hid; rw [List.length_append, H0.out]; rfl
      obtain ⟨go, hro⟩ := own_rdB HLL.out ho3
      obtain ⟨gk, hrk⟩ := own_rdB H0.out hk3
      clear hd1 hd2 hk2 hk3 ho3 hrd1 hg1 hg2 hg3 hB1 hB2 hBS hbb hrS
      go_wp2_with fail
      refine (hasPrefix_any ao3 go 0 (n0 + 1) c3 (l ++ rowOf (fsOf [])) ao2 gk 0 n0 c2 l w3 hro hrk (by omega) (by omega) (fun j hj => bat_left (by rw [H0.out]; exact hj))).mono ?_
      rintro e w5 ⟨q, rfl, rfl⟩
      have hne : ¬ c3 = n0 := by omega
      obtain rfl := hro.addr (by omega)
      have hc5 : (w3.drewN q).cell? ⟨go, n0, none⟩ = some (.int .u8 10) := by
        have := hro.cell n0 (by omega)
        rw [Nat.zero_add, show n0 = n0 + 0 from rfl, bat_right H0.out (by decide)] at this
        exact this
      have HB : Hid (Below w.heap.size w w3) := hB3
      clear hro hrk hB3
      go_wp2_with fail
      go_ret
      exact ⟨rfl, below_drewN HB.out _⟩
    | some ad =>
      go_wp2_with (at_make; refine wpList_make_full _ rfl (.tmp 34) (.tmp 34) 31 rfl w.heap.size 9 i9 (.string ByteArray.empty) 1 Trym.underlying31 hi9 hz90 hz91 .i64 .i64 _ _ 0 rfl rfl rfl rfl (by rw [hz92]; omega) (by unfold maxLen; omega) (Nat.le_refl _) ?_)
      intro wA hoA hgA
      have hBS := below_of_grown hgA
      have hrS := hr0.below hBS (Nat.le_refl _)
      clear hr0 hoA hgA
      go_wp2_with (refine wpList_copy_nothing rfl (.tmp 36) (.tmp 37) 31 31 rfl 9 Trym.underlying31 Trym.size9 _ _ _ _ _ _ rfl rfl rfl ?_)
      go_wp2_with fail
      refine (clone_sh a0 b0 off0 n0 cap0 l wA H0.out hrS (by omega)).mono ?_
      rintro e w1 ⟨ao1, c1, rfl, hd1, hg1⟩
      obtain ⟨gd, hrd1⟩ := own_rdB H0.out hd1
      go_wp2_with fail
      refine (clone_sh ao1 gd 0 n0 c1 l w1 H0.out hrd1 (by omega)).mono ?_
      rintro e w2 ⟨ao2, c2, rfl, hk2, hg2⟩
      have hd2 := kept_none hd1 hg2
      have hs0 := hBS.size
      have hs1 := hg1.size
      have hs2 := hg2.size
      have hB1 := below_none hBS hg1 (by omega)
      have hB2 := below_none hB1 hg2 (by omega)
      obtain ⟨bb, hbb⟩ := other_block (Value.slice ao1 n0 c1)
      go_wp2_with fail
      refine (zzRow_sh w2 ao1 n0 c1 l H0.out hd2 (by omega) _ bb 0 0 _ [] rfl (Rd.nil _ _ _ _ _) hbb 1 rfl (by simp [fsOf, tot]; omega)).mono ?_
      rintro e w3 ⟨ao3, c3, rfl, ho3, hg3, hc3⟩
      have hk3 := kept_newer hd1 hk2 hg3
      have hs3 := hg3.size
      have hB3 := hB2.grown hg3 (by omega) (fun k hk => by have := (hd2.lt k hk).1; omega)
      have HLL : Hid ((l ++ rowOf (fsOf [])).length = n0 + 1) := by unfold Hid; rw [List.length_append, H0.out]; rfl
      obtain ⟨go, hro⟩ := own_rdB HLL.out ho3
      obtain ⟨gk, hrk⟩ := own_rdB H0.out hk3
      clear hd1 hd2 hk2 hk3 ho3 hrd1 hg1 hg2 hg3 hB1 hB2 hBS hbb hrS
      go_wp2_with fail
      refine (hasPrefix_any ao3 go 0 (n0 + 1) c3 (l ++ rowOf (fsOf [])) ao2 gk 0 n0 c2 l w3 hro hrk (by omega) (by omega) (fun j hj => bat_left (by rw [H0.out]; exact hj))).mono ?_
      rintro e w5 ⟨q, rfl, rfl⟩
      have hne : ¬ c3 = n0 := by omega
      obtain rfl := hro.addr (by omega)
      have hc5 : (w3.drewN q).cell? ⟨go, n0, none⟩ = some (.int .u8 10) := by
        have := hro.cell n0 (by omega)
        rw [Nat.zero_add, show n0 = n0 + 0 from rfl, bat_right H0.out (by decide)] at this
        exact this
      have HB : Hid (Below w.heap.size w w3) := hB3
      clear hro hrk hB3
      go_wp2_with fail
      go_ret
      exact ⟨rfl, below_drewN HB.out _⟩


/-- An owned row of bools, read. -/
theorem own_rdQ {w : World} {base : Nat} {ao : Option Addr} {n cap : Nat} {ss : List ByteArray} (hl : ss.length = n) (h : w.ownsRow base 4 1 (.slice ao n cap) n (boolV ss)) : ∃ g, Rd w ao g 0 n (fun j => .bool (hasSpc (sat ss j).data.toList)) :=
  let ⟨g, hr, _⟩ := own_rd h (fun j => .bool (hasSpc (sat ss j).data.toList)) (fun j hj => boolV_at (by omega))
  ⟨g, hr⟩

set_option maxHeartbeats 3200000 in
set_option maxRecDepth 100000 in
theorem decodes_some (a0 : Option Addr) (b0 off0 n0 cap0 : Nat) (l : List UInt8) (a1 : Option Addr) (b1 off1 n1 cap1 : Nat) (s1 : List ByteArray) (w : World)
    (hl0 : l.length = n0) (hr0 : RdB w a0 b0 off0 n0 l) (hl1 : s1.length = n1) (hr1 : RdS w a1 b1 off1 n1 s1) (hz1 : ∀ j, (sat s1 j).size ≤ 9223372036854775807)
    (h0 : n0 ≤ 9223372036854775807) (h1 : n1 ≤ 9223372036854775807) (h6 : 0 < n1) :
    Calls Trym.prog 5 #[.slice a0 n0 cap0, .slice a1 n1 cap1] w fun e w' => e = .returned (.bool true) ∧ Below w.heap.size w w' := by
  have H0 : Hid (l.length = n0) := hl0
  have H1 : Hid (s1.length = n1) := hl1
  have HZ1 : Hid (∀ j, (sat s1 j).size ≤ 9223372036854775807) := hz1
  clear hl0 hl1 hz1
  obtain ⟨i9, hi9, hz90, hz91, hz92⟩ := info_parts Trym.info9
  have hnz := fun (wx : World) (a : Addr) (n c : Nat) => run_neq_slice_nil_any (P := Trym.prog) wx 31 9 (some a) n c 0 0 Trym.underlying31
  go_enter Trym.func5, Trym.ntmps5
  go_wp2_with fail
  refine (zz17_any a0 n0 cap0 a1 b1 off1 n1 cap1 s1 w h0 h1 H1.out hr1 HZ1.out).mono ?_
  rintro e w' ⟨⟨r, rfl, hB⟩, rfl⟩
  cases r with
  | false =>
    clear hB
    go_wp2_with fail
    go_ret
    exact ⟨rfl, Below.refl _ _⟩
  | true =>
    have hB' := hB rfl
    clear hB
    by_cases h3 : 65536 < n1
    · go_wp2_with fail
      go_ret
      exact ⟨rfl, Below.refl _ _⟩
    go_wp2_with fail
    refine (stringsBytes_any a1 b1 off1 n1 cap1 s1 w hr1 (by omega)).mono ?_
    rintro e w' ⟨m1, rfl, rfl, hm1⟩
    by_cases h5 : 1048576 < n0 + m1
    · go_wp2_with fail
      go_ret
      exact ⟨rfl, Below.refl _ _⟩
    have h6' : ((n1 : Int) == 0) = false := by simp; omega
    obtain rfl := hr1.addr (by omega)
    go_wp2_with (at_make; refine wpList_make_full _ rfl (.tmp 34) (.tmp 34) 31 rfl w.heap.size 9 i9 (.string ByteArray.empty) 1 Trym.underlying31 hi9 hz90 hz91 .i64 .i64 n1 n1 n1 rfl rfl rfl rfl (by rw [hz92]; omega) (by unfold maxLen; omega) (Nat.le_refl _) ?_)
    intro wA hoA hgA
    have hr1A := hr1.below (below_of_grown hgA) (Nat.le_refl _)
    go_wp2_with (refine wpList_copy_whole _ rfl (.tmp 36) (.tmp 37) 31 31 rfl 9 Trym.underlying31 Trym.size9 w.heap.size w.heap.size n1 n1 _ rfl hoA ⟨b1, off1, none⟩ cap1 rfl (strV s1) (by rw [strV_len]; exact H1.out) (rd_src H1.out hr1A) (strV_one _) ?_)
    intro wB hoB hgB
    have hBB : Below w.heap.size w wB := (below_of_grown hgA).grown hgB hgA.size (fun k hk => by simp at hk; omega)
    have hr0B := hr0.below hBB (Nat.le_refl _)
    have raB := own_atS H1.out hoB
    have hsB : w.heap.size < wB.heap.size := World.block_lt_of_cell? _ _ (raB.cell 0 h6)
    clear hoA hgA hr1A hgB hr1 hr0 hoB
    go_wp2_with fail
    refine (clone_sh a0 b0 off0 n0 cap0 l wB H0.out hr0B (by omega)).mono ?_
    rintro e w1 ⟨ao1, c1, rfl, hd1, hg1⟩
    obtain ⟨gd, hrd1⟩ := own_rdB H0.out hd1
    have ra1 := raB.below (below_of_grown hg1) (Nat.le_refl _)
    have hs1 := hg1.size
    have hBw1 := below_none hBB hg1 (by omega)
    clear raB hBB hg1 hr0B
    go_wp2_with fail
    refine (clone_sh ao1 gd 0 n0 c1 l w1 H0.out hrd1 (by omega)).mono ?_
    rintro e w2 ⟨ao2, c2, rfl, hk2, hg2⟩
    have hd2 := kept_none hd1 hg2
    have ra2 := ra1.below (below_of_grown hg2) (Nat.le_refl _)
    have hs2 := hg2.size
    have hBw2 := below_none hBw1 hg2 (by omega)
    clear ra1 hBw1 hg2 hrd1
    obtain ⟨R, hR⟩ : ∃ r, (rowOf (fsOf s1)).length = r := ⟨_, rfl⟩
    have hrl := rowOf_len (fsOf s1)
    rw [hR, fsOf_len, H1.out] at hrl
    obtain ⟨hrl1, hrl2⟩ := hrl
    have HR : Hid ((rowOf (fsOf s1)).length = R) := hR
    clear hR
    have hdne : (Value.slice ao1 n0 c1).ownBlock ≠ some w.heap.size := fun e => by have := (hd1.lt _ e).1; omega
    go_wp2_with fail
    refine (zzRow_sh w2 ao1 n0 c1 l H0.out hd2 (by omega) _ w.heap.size 0 n1 n1 s1 H1.out ra2 hdne R HR.out (by omega)).mono ?_
    rintro e w3 ⟨ao3, c3, rfl, ho3, hg3, hc3⟩
    have hk3 := kept_newer hd1 hk2 hg3
    have ra3 := ra2.grown hg3 hdne
    have hs3 := hg3.size
    have hB3 := hBw2.grown hg3 (by omega) (fun k hk => by have := (hd2.lt k hk).1; omega)
    have HLL : Hid ((l ++ rowOf (fsOf s1)).length = n0 + R) := by unfold Hid; rw [List.length_append, H0.out, HR.out]
    obtain ⟨go, hro⟩ := own_rdB HLL.out ho3
    obtain ⟨gk, hrk⟩ := own_rdB H0.out hk3
    clear hd1 hd2 hk2 hk3 ho3 hg3 hBw2 ra2 hdne
    go_wp2_with fail
    refine (hasPrefix_any ao3 go 0 (n0 + R) c3 (l ++ rowOf (fsOf s1)) ao2 gk 0 n0 c2 l w3 hro hrk (by omega) (by omega) (fun j hj => bat_left (by rw [H0.out]; exact hj))).mono ?_
    rintro e w5 ⟨q, rfl, rfl⟩
    have hne : ¬ c3 = n0 := by omega
    obtain rfl := hro.addr (by omega)
    have HRT : Hid (RdB (w3.drewN q) (some ⟨go, n0, none⟩) go n0 R (rowOf (fsOf s1))) := by
      have := Rd.tail H0.out HR.out (hro.drewN q) (some ⟨go, n0, none⟩) (fun _ => by rw [Nat.zero_add])
      rw [Nat.zero_add] at this
      exact this
    have HB : Hid (Below w.heap.size w w3) := hB3
    have HRA : Hid (RdS (w3.drewN q) (some ⟨w.heap.size, 0, none⟩) w.heap.size 0 n1 s1) := ra3.drewN q
    clear hro hrk hB3 ra3
    go_wp2_with fail
    refine (decodeRow_any go n0 R (c3 - n0) n1 s1 (w3.drewN q) h6 H1.out (by omega) HR.out HRT.out (by omega) (by omega)).mono ?_
    rintro e w6 ⟨a6, c6, a7, c7, rfl, ho6, ho7, hg6⟩
    have hB6 := below_of_grown hg6
    have ra6 := HRA.out.below hB6 (Nat.le_refl _)
    have hBw6 := below_none (below_drewN HB.out q) hg6 (by show w.heap.size ≤ w3.heap.size; omega)
    obtain ⟨g6, rg6, _⟩ := own_rdS H1.out ho6
    obtain ⟨g7, rq6⟩ := own_rdQ H1.out ho7
    have HBw : Hid (Below w.heap.size w w6) := hBw6
    clear ho6 ho7 hg6 hB6 hBw6 HRA HRT HB
    obtain rfl := rg6.addr h6
    obtain rfl := rq6.addr h6
    go_wp2_with fail
    go_loopw [12] (fun i wr => ∃ k : Nat, k ≤ n1 ∧ i = .int .i64 k ∧ Below w.heap.size w wr ∧ RdS wr (some ⟨g6, 0, none⟩) g6 0 n1 s1 ∧ Rd wr (some ⟨g7, 0, none⟩) g7 0 n1 (fun j => .bool (hasSpc (sat s1 j).data.toList)) ∧ RdS wr (some ⟨w.heap.size, 0, none⟩) w.heap.size 0 n1 s1) (fun i _ => n1 - (intOf i).toNat)
    case atStart => exact ⟨0, Nat.zero_le _, rfl, HBw.out, rg6, rq6, ra6⟩
    case round =>
      obtain ⟨k, hk, rfl, hBr, rgr, rqr, rar⟩ := hrel
      clear rg6 rq6 ra6 HBw
      by_cases hlt : k < n1
      · have c1 : wr.cell? ⟨g6, k, none⟩ = some (.string (sat s1 k)) := by have := rgr.cell k hlt; rwa [Nat.zero_add] at this
        have c2 : wr.cell? ⟨w.heap.size, k, none⟩ = some (.string (sat s1 k)) := by have := rar.cell k hlt; rwa [Nat.zero_add] at this
        have c3 : wr.cell? ⟨g7, k, none⟩ = some (.bool (hasSpc (sat s1 k).data.toList)) := by have := rqr.cell k hlt; rwa [Nat.zero_add] at this
        have hz := HZ1.out k
        have hlt' : (k : Int) < (n1 : Int) := by omega
        have HBr : Hid (Below w.heap.size w wr) := hBr
        have HGR : Hid (RdS wr (some ⟨g6, 0, none⟩) g6 0 n1 s1) := rgr
        have HQR : Hid (Rd wr (some ⟨g7, 0, none⟩) g7 0 n1 (fun j => .bool (hasSpc (sat s1 j).data.toList))) := rqr
        have HAR : Hid (RdS wr (some ⟨w.heap.size, 0, none⟩) w.heap.size 0 n1 s1) := rar
        clear rgr rqr rar hBr
        go_wp2_with fail
        go_quiet ((go_at_call 12; exact Calls.quiet_of_same (hasSpecial_any (sat s1 k) _ hz)))
        go_wp2_with fail
        go_roundw
        case rel => exact ⟨k + 1, hlt, by go_num, below_drewN HBr.out _, HGR.out.drewN _, HQR.out.drewN _, HAR.out.drewN _⟩
        case measure => simp [intOf]; omega
      · go_wp2_with fail
        go_ret
        exact ⟨rfl, hBr⟩
end Go.Proofs.Qxb6000036aMods
