/-
  THE WALK OF FnCsvRowSplits (6).
-/
import Derived.Test.Qxb6000036aModsStrs
namespace Go.Proofs.Qxb6000036aMods
open Go.RowKit Csv

set_option maxHeartbeats 3200000 in
set_option maxRecDepth 100000 in
theorem splits_walk (a0 : Option Addr) (b0 off0 n0 cap0 : Nat) (l : List UInt8) (a1 : Option Addr) (b1 off1 n1 cap1 : Nat) (s1 : List ByteArray) (a2 : Option Addr) (b2 off2 n2 cap2 : Nat) (s2 : List ByteArray) (w : World)
    (hl0 : l.length = n0) (hr0 : RdB w a0 b0 off0 n0 l) (hl1 : s1.length = n1) (hr1 : RdS w a1 b1 off1 n1 s1) (hz1 : ∀ j, (sat s1 j).size ≤ 9223372036854775807) (hl2 : s2.length = n2) (hr2 : RdS w a2 b2 off2 n2 s2) (hz2 : ∀ j, (sat s2 j).size ≤ 9223372036854775807)
    (h0 : n0 ≤ 9223372036854775807) (h1 : n1 ≤ 9223372036854775807) (h2 : n2 ≤ 9223372036854775807) :
    Calls Trym.prog 6 #[.slice a0 n0 cap0, .slice a1 n1 cap1, .slice a2 n2 cap2] w fun e w' => e = .returned (.bool true) ∧ Below w.heap.size w w' := by
  have H0 : Hid (l.length = n0) := hl0
  have H1 : Hid (s1.length = n1) := hl1
  have H2 : Hid (s2.length = n2) := hl2
  have HZ1 : Hid (∀ j, (sat s1 j).size ≤ 9223372036854775807) := hz1
  have HZ2 : Hid (∀ j, (sat s2 j).size ≤ 9223372036854775807) := hz2
  clear hl0 hl1 hl2 hz1 hz2
  obtain ⟨i9, hi9, hz90, hz91, hz92⟩ := info_parts Trym.info9
  obtain ⟨i5, hi5, hz50, hz51, hz52⟩ := info_parts Trym.info5
  have hnz := fun (wx : World) (a : Addr) (n c : Nat) => run_neq_slice_nil_any (P := Trym.prog) wx 31 9 (some a) n c 0 0 Trym.underlying31
  go_enter Trym.func6, Trym.ntmps6
  go_wp2_with fail
  refine (zz21_any a0 n0 cap0 a1 b1 off1 n1 cap1 s1 a2 b2 off2 n2 cap2 s2 w h0 h1 h2 H1.out hr1 HZ1.out H2.out hr2 HZ2.out).mono ?_
  rintro e w' ⟨⟨r, rfl, hB⟩, rfl⟩
  cases r with
  | false =>
    clear hB
    go_wp2_with fail
    go_ret
    exact ⟨rfl, Below.refl _ _⟩
  | true =>
    have hB' := hB rfl
    clear hB
    by_cases h3 : 65536 < n1
    · go_wp2_with fail
      go_ret
      exact ⟨rfl, Below.refl _ _⟩
    by_cases h4 : 65536 < n2
    · go_wp2_with fail
      go_ret
      exact ⟨rfl, Below.refl _ _⟩
    go_wp2_with fail
    refine (stringsBytes_any a1 b1 off1 n1 cap1 s1 w hr1 (by omega)).mono ?_
    rintro e w' ⟨m1, rfl, rfl, hm1⟩
    go_wp2_with fail
    refine (stringsBytes_any a2 b2 off2 n2 cap2 s2 w hr2 (by omega)).mono ?_
    rintro e w' ⟨m2, rfl, rfl, hm2⟩
    by_cases h5 : 1048576 < n0 + m1 + m2
    · go_wp2_with fail
      go_ret
      exact ⟨rfl, Below.refl _ _⟩
    by_cases h6 : n1 = 0
    · subst h6
      go_wp2_with fail
      go_ret
      exact ⟨rfl, Below.refl _ _⟩
    by_cases h7 : n2 = 0
    · subst h7
      go_wp2_with fail
      go_ret
      exact ⟨rfl, Below.refl _ _⟩
    have h6' : ((n1 : Int) == 0) = false := by simp; omega
    have h7' : ((n2 : Int) == 0) = false := by simp; omega
    obtain rfl := hr1.addr (by omega)
    obtain rfl := hr2.addr (by omega)
    go_wp2_with (at_make; refine wpList_make_full _ rfl (.tmp 58) (.tmp 58) 31 rfl w.heap.size 9 i9 (.string ByteArray.empty) 1 Trym.underlying31 hi9 hz90 hz91 .i64 .i64 n1 n1 n1 rfl rfl rfl rfl (by rw [hz92]; omega) (by unfold maxLen; omega) (Nat.le_refl _) ?_)
    intro wA hoA hgA
    have hr1A := hr1.below (below_of_grown hgA) (Nat.le_refl _)
    go_wp2_with (refine wpList_copy_whole _ rfl (.tmp 60) (.tmp 61) 31 31 rfl 9 Trym.underlying31 Trym.size9 w.heap.size w.heap.size n1 n1 _ rfl hoA ⟨b1, off1, none⟩ cap1 rfl (strV s1) (by rw [strV_len]; exact H1.out) (rd_src H1.out hr1A) (strV_one _) ?_)
    intro wB hoB hgB
    have hBB : Below w.heap.size w wB := (below_of_grown hgA).grown hgB hgA.size (fun k hk => by simp at hk; omega)
    have hr2B := hr2.below hBB (Nat.le_refl _)
    have hr0B := hr0.below hBB (Nat.le_refl _)
    have raB := own_atS H1.out hoB
    clear hoA hgA hr1A hgB hr1 hr2 hr0 hoB
    go_wp2_with (at_make; refine wpList_make_full _ rfl (.tmp 67) (.tmp 67) 31 rfl wB.heap.size 9 i9 (.string ByteArray.empty) 1 Trym.underlying31 hi9 hz90 hz91 .i64 .i64 n2 n2 n2 rfl rfl rfl rfl (by rw [hz92]; omega) (by unfold maxLen; omega) (Nat.le_refl _) ?_)
    intro wC hoC hgC
    have hr2C := hr2B.below (below_of_grown hgC) (Nat.le_refl _)
    go_wp2_with (refine wpList_copy_whole _ rfl (.tmp 69) (.tmp 70) 31 31 rfl 9 Trym.underlying31 Trym.size9 wB.heap.size wB.heap.size n2 n2 _ rfl hoC ⟨b2, off2, none⟩ cap2 rfl (strV s2) (by rw [strV_len]; exact H2.out) (rd_src H2.out hr2C) (strV_one _) ?_)
    intro wD hoD hgD
    have hBD : Below wB.heap.size wB wD := (below_of_grown hgC).grown hgD hgC.size (fun k hk => by simp at hk; omega)
    have hr0D := hr0B.below hBD (Nat.le_refl _)
    have raD := raB.below hBD (Nat.le_refl _)
    have rbD := own_atS H2.out hoD
    have hsB := hBB.size
    have hsD := hBD.size
    have hBwD := hBB.trans (hBD.mono hsB)
    clear hoC hgC hr2C hgD hr2B hr0B raB hoD hBB hBD
    go_wp2_with fail
    refine (clone_sh a0 b0 off0 n0 cap0 l wD H0.out hr0D (by omega)).mono ?_
    rintro e w1 ⟨ao1, c1, rfl, hd1, hg1⟩
    obtain ⟨gd, hrd1⟩ := own_rdB H0.out hd1
    have ra1 := raD.below (below_of_grown hg1) (Nat.le_refl _)
    have rb1 := rbD.below (below_of_grown hg1) (Nat.le_refl _)
    have hs1 := hg1.size
    have hBw1 := below_none hBwD hg1 (by omega)
    clear raD rbD hBwD hg1 hr0D
    go_wp2_with fail
    refine (clone_sh ao1 gd 0 n0 c1 l w1 H0.out hrd1 (by omega)).mono ?_
    rintro e w2 ⟨ao2, c2, rfl, hk2, hg2⟩
    obtain ⟨gk, rk2⟩ := own_rdB H0.out hk2
    have hd2 := kept_none hd1 hg2
    have HDL : Hid (∀ k, (Value.slice ao1 n0 c1).ownBlock = some k → wD.heap.size ≤ k ∧ k < w1.heap.size) := fun k hk => hd1.lt k hk
    have ra2 := ra1.below (below_of_grown hg2) (Nat.le_refl _)
    have rb2 := rb1.below (below_of_grown hg2) (Nat.le_refl _)
    have hs2 := hg2.size
    have hBw2 := below_none hBw1 hg2 (by omega)
    clear ra1 rb1 hBw1 hg2 hrd1 hk2
    go_wp2_with (at_make; refine wpList_make_own _ rfl _ (.tmp 81) 31 rfl w2.heap.size 9 i9 (.string ByteArray.empty) 1 Trym.underlying31 hi9 hz90 hz91 .i64 .i64 _ (n1 + n2) rfl rfl (by omega) (by rw [hz92]; omega) (by unfold maxLen; omega) (Nat.le_refl _) ?_)
    intro w3 hoE hgE
    have gE := gr_made hoE hgE
    clear hoE hgE
    go_wp2_with fail
    go_loopw [10, 11] (fun v i wr => ∃ (k : Nat) (ao : Option Addr) (c : Nat), k ≤ n1 ∧ i = .int .i64 k ∧ v = .slice ao k c ∧ Gr w2 none w2.heap.size 9 wr (.slice ao k c) (strV (s1.take k))) (fun _ i _ => n1 - (intOf i).toNat)
    case atStart => exact ⟨0, _, _, Nat.zero_le _, rfl, rfl, gE⟩
    case round =>
      obtain ⟨k, ao, c, hk, rfl, rfl, gk1⟩ := hrel
      clear gE
      have hlk : Hid ((strV (s1.take k)).length = k) := by unfold Hid; rw [strV_len, List.length_take, H1.out]; omega
      by_cases hlt : k < n1
      · have c3 : wr.cell? ⟨w.heap.size, k, none⟩ = some (.string (sat s1 k)) := by
          have := (ra2.below (gr_below gk1) (Nat.le_refl _)).cell k hlt
          rwa [Nat.zero_add] at this
        go_wp2_with (at_builtin; refine wpList_append_gr _ rfl (.tmp 89) (.tmp 94) 31 rfl i9 (.string ByteArray.empty) 16 Trym.underlying31 hi9 hz90 hz91 hz92 rfl rfl (gk1.alloc _) ⟨wr.heap.size, 0, none⟩ 1 1 [.string (sat s1 k)] rfl rfl (cell_one_new _ _ _) (one_str _) (by rw [hlk.out]; omega) (by rw [hlk.out]; unfold maxLen; omega) ?_)
        intro v4 w4 g4
        rw [strV_snoc (by rw [H1.out]; exact hlt)] at g4
        obtain ⟨ao4, cc4, hv4⟩ := g4.shapeN (n := k + 1) (by rw [strV_len, List.length_take, H1.out]; omega)
        go_wp2_with fail
        go_roundw
        case rel => exact ⟨k + 1, ao4, cc4, by omega, by go_num, hv4, by rw [hv4] at g4; exact g4⟩
        case measure => simp [intOf]; omega
      · obtain rfl : n1 = k := by omega
        have gF : Gr w2 none w2.heap.size 9 wr (.slice ao n1 c) (strV (s1 ++ s2.take 0)) := by
          rw [List.take_of_length_le (by rw [H1.out]; exact Nat.le_refl _)] at gk1
          rw [List.take_zero, List.append_nil]
          exact gk1
        clear gk1 hlk
        go_wp2_with fail
        go_loopw [10, 12] (fun v i wq => ∃ (j : Nat) (ap : Option Addr) (cp : Nat), j ≤ n2 ∧ i = .int .i64 j ∧ v = .slice ap (n1 + j) cp ∧ Gr w2 none w2.heap.size 9 wq (.slice ap (n1 + j) cp) (strV (s1 ++ s2.take j))) (fun _ i _ => n2 - (intOf i).toNat)
        case atStart => exact ⟨0, _, _, Nat.zero_le _, rfl, rfl, gF⟩
        case round =>
          obtain ⟨j, ap, cp, hj, rfl, rfl, gj⟩ := hrel
          clear gF
          have hlj : Hid ((strV (s1 ++ s2.take j)).length = n1 + j) := by unfold Hid; rw [strV_len, List.length_append, List.length_take, H1.out, H2.out]; omega
          by_cases hlt2 : j < n2
          · have c3 : wr.cell? ⟨wB.heap.size, j, none⟩ = some (.string (sat s2 j)) := by
              have := (rb2.below (gr_below gj) (Nat.le_refl _)).cell j hlt2
              rwa [Nat.zero_add] at this
            go_wp2_with (at_builtin; refine wpList_append_gr _ rfl (.tmp 102) (.tmp 107) 31 rfl i9 (.string ByteArray.empty) 16 Trym.underlying31 hi9 hz90 hz91 hz92 rfl rfl (gj.alloc _) ⟨wr.heap.size, 0, none⟩ 1 1 [.string (sat s2 j)] rfl rfl (cell_one_new _ _ _) (one_str _) (by rw [hlj.out]; omega) (by rw [hlj.out]; unfold maxLen; omega) ?_)
            intro v4 w4 g4
            rw [strV_append, List.append_assoc, strV_snoc (by rw [H2.out]; exact hlt2), ← strV_append] at g4
            obtain ⟨ao4, cc4, hv4⟩ := g4.shapeN (n := n1 + (j + 1)) (by rw [strV_len, List.length_append, List.length_take, H1.out, H2.out]; omega)
            go_wp2_with fail
            go_roundw
            case rel => exact ⟨j + 1, ao4, cc4, by omega, by go_num, hv4, by rw [hv4] at g4; exact g4⟩
            case measure => simp [intOf]; omega
          · obtain rfl : n2 = j := by omega
            have gG : Gr w2 none w2.heap.size 9 wr (.slice ap (n1 + n2) cp) (strV (s1 ++ s2)) := by
              rw [List.take_of_length_le (by rw [H2.out]; exact Nat.le_refl _)] at gj
              exact gj
            have hLab : Hid ((s1 ++ s2).length = n1 + n2) := by unfold Hid; rw [List.length_append, H1.out, H2.out]
            have hB3 := gr_below gG
            have ra4 := ra2.below hB3 (Nat.le_refl _)
            have rb4 := rb2.below hB3 (Nat.le_refl _)
            have rk4 := rk2.below hB3 (Nat.le_refl _)
            have hd4 := kept_none hd2 gG.grown
            have hs4 := hB3.size
            have hBw4 := hBw2.trans (hB3.mono (by omega))
            have hoG := gG.own
            rw [strV_len, hLab.out] at hoG
            obtain ⟨gab, rab4, hgab⟩ := own_rdS hLab.out hoG
            obtain ⟨r1, hr1⟩ : ∃ r, (rowOf (fsOf s1)).length = r := ⟨_, rfl⟩
            obtain ⟨r2, hr2⟩ : ∃ r, (rowOf (fsOf s2)).length = r := ⟨_, rfl⟩
            have hrl1 := rowOf_len (fsOf s1)
            have hrl2 := rowOf_len (fsOf s2)
            rw [hr1, fsOf_len, H1.out] at hrl1
            rw [hr2, fsOf_len, H2.out] at hrl2
            have HR1 : Hid ((rowOf (fsOf s1)).length = r1) := hr1
            have HR2 : Hid ((rowOf (fsOf s2)).length = r2) := hr2
            clear hr1 hr2 gj gG hlj hB3 ra2 rb2 rk2 hoG hlt hlt2 hd2 hd1 hBw2
            go_wp2_with fail
            refine (zzRow_nil wr _ w.heap.size 0 n1 n1 s1 H1.out ra4 r1 HR1.out (by omega)).mono ?_
            rintro e w5 ⟨ao5, c5, rfl, ho5, hg5⟩
            have hB5 := below_of_grown hg5
            have rb5 := rb4.below hB5 (Nat.le_refl _)
            have rk5 := rk4.below hB5 (Nat.le_refl _)
            have rab5 := rab4.below hB5 (Nat.le_refl _)
            have hd5 := kept_none hd4 hg5
            have hs5 := hB5.size
            have hBw5 := hBw4.trans (hB5.mono (by omega))
            obtain ⟨g5, rr5⟩ := own_rdB HR1.out ho5
            clear ra4 rb4 rk4 rab4 hd4 hg5 hB5 hBw4 ho5
            go_wp2_with fail
            refine (zzRow_nil w5 _ wB.heap.size 0 n2 n2 s2 H2.out rb5 r2 HR2.out (by omega)).mono ?_
            rintro e w6 ⟨ao6, c6, rfl, ho6, hg6⟩
            have hB6 := below_of_grown hg6
            have rk6 := rk5.below hB6 (Nat.le_refl _)
            have rab6 := rab5.below hB6 (Nat.le_refl _)
            have rr6 := rr5.below hB6 (Nat.le_refl _)
            have hd6 := kept_none hd5 hg6
            have hs6 := hB6.size
            have hBw6 := hBw5.trans (hB6.mono (by omega))
            obtain ⟨g6, rq6⟩ := own_rdB HR2.out ho6
            clear rb5 rk5 rab5 rr5 hd5 hg6 hB6 hBw5 ho6
            obtain rfl := rr6.addr (by omega)
            have hx1 : ((r1 : Int) == 0) = false := by simp; omega
            have hx2 : w6.cell? ⟨g5, r1 - 1, none⟩ = some (.int .u8 10) := by
              have := rr6.cell (r1 - 1) (by omega)
              rw [Nat.zero_add] at this
              rw [this, bat_rowEnd HR1.out]
              rfl
            go_wp2_with (at_make; refine wpList_make_own _ rfl _ (.tmp 132) 22 rfl w6.heap.size 5 i5 (.int .u8 0) 1 Trym.underlying22 hi5 hz50 hz51 .i64 .i64 _ (n0 + r1 + r2) rfl rfl (by omega) (by rw [hz52]; omega) (by unfold maxLen; omega) (Nat.le_refl _) ?_)
            intro w7 hoH hgH
            have gH : Gr w6 none w6.heap.size 5 w7 (.slice (some ⟨w6.heap.size, 0, none⟩) 0 (n0 + r1 + r2)) (bys ([] ++ l.take 0)) := gr_made hoH hgH
            clear hoH hgH hx2
            go_wp2_with fail
            go_loopw [15, 16] (fun v i wq => ∃ (k3 : Nat) (a3 : Option Addr) (q3 : Nat), k3 ≤ n0 ∧ i = .int .i64 k3 ∧ v = .slice a3 k3 q3 ∧ Gr w6 none w6.heap.size 5 wq (.slice a3 k3 q3) (bys ([] ++ l.take k3))) (fun _ i _ => n0 - (intOf i).toNat)
            case atStart => exact ⟨0, _, _, Nat.zero_le _, rfl, rfl, gH⟩
            case round =>
              obtain ⟨k3, a3, q3, hk3, rfl, rfl, g3⟩ := hrel
              clear gH
              have hl3 : Hid ((bys ([] ++ l.take k3)).length = k3) := by unfold Hid; rw [bys_pre_len _ _ _ (by rw [H0.out]; exact hk3)]; simp
              by_cases hlt3 : k3 < n0
              · obtain rfl := rk6.addr (by omega)
                have c3 : wr.cell? ⟨gk, k3, none⟩ = some (.int .u8 (bat l k3)) := by
                  have := (rk6.below (gr_below g3) (Nat.le_refl _)).cell k3 hlt3
                  rwa [Nat.zero_add] at this
                go_wp2_with (at_builtin; refine wpList_append_gr _ rfl (.tmp 140) (.tmp 145) 22 rfl i5 (.int .u8 0) 1 Trym.underlying22 hi5 hz50 hz51 hz52 rfl rfl (g3.alloc _) ⟨wr.heap.size, 0, none⟩ 1 1 [.int .u8 (bat l k3)] rfl rfl (cell_one_new _ _ _) (one_u8 _) (by rw [hl3.out]; omega) (by rw [hl3.out]; unfold maxLen; omega) ?_)
                intro v4 w4 g4
                have g4' : Gr w6 none w6.heap.size 5 w4 v4 (bys ([] ++ l.take (k3 + 1))) := by
                  rw [← bys_snoc [] l k3 (by rw [H0.out]; exact hlt3)]; exact g4
                clear g4
                obtain ⟨ao4, cc4, hv4⟩ := g4'.shapeN (n := k3 + 1) (by rw [bys_pre_len _ _ _ (by rw [H0.out]; omega)]; simp)
                go_wp2_with fail
                go_roundw
                case rel => exact ⟨k3 + 1, ao4, cc4, by omega, by go_num, hv4, by rw [hv4] at g4'; exact g4'⟩
                case measure => simp [intOf]; omega
              · obtain rfl : n0 = k3 := by omega
                have gI : Gr w6 none w6.heap.size 5 wr (.slice a3 n0 q3) (bys (l ++ (rowOf (fsOf s1)).take 0)) := by
                  rw [List.take_of_length_le (by rw [H0.out]; exact Nat.le_refl _), List.nil_append] at g3
                  rw [List.take_zero, List.append_nil]
                  exact g3
                clear g3 hl3 rk6
                go_wp2_with fail
                go_loopw [15, 17] (fun v i wq => ∃ (k4 : Nat) (a4 : Option Addr) (q4 : Nat), k4 ≤ r1 - 1 ∧ i = .int .i64 k4 ∧ v = .slice a4 (n0 + k4) q4 ∧ Gr w6 none w6.heap.size 5 wq (.slice a4 (n0 + k4) q4) (bys (l ++ (rowOf (fsOf s1)).take k4))) (fun _ i _ => (r1 - 1) - (intOf i).toNat)
                case atStart => exact ⟨0, _, _, Nat.zero_le _, rfl, rfl, gI⟩
                case round =>
                  obtain ⟨k4, a4, q4, hk4, rfl, rfl, g4⟩ := hrel
                  clear gI
                  have hl4 : Hid ((bys (l ++ (rowOf (fsOf s1)).take k4)).length = n0 + k4) := by unfold Hid; rw [bys_pre_len _ _ _ (by rw [HR1.out]; omega), H0.out]
                  by_cases hlt4 : k4 < r1 - 1
                  · have hlt4' : (k4 : Int) < (r1 : Int) - 1 := by omega
                    have c3 : wr.cell? ⟨g5, k4, none⟩ = some (.int .u8 (bat (rowOf (fsOf s1)) k4)) := by
                      have := (rr6.below (gr_below g4) (Nat.le_refl _)).cell k4 (by omega)
                      rwa [Nat.zero_add] at this
                    go_wp2_with (at_builtin; refine wpList_append_gr _ rfl (.tmp 154) (.tmp 159) 22 rfl i5 (.int .u8 0) 1 Trym.underlying22 hi5 hz50 hz51 hz52 rfl rfl (g4.alloc _) ⟨wr.heap.size, 0, none⟩ 1 1 [.int .u8 (bat (rowOf (fsOf s1)) k4)] rfl rfl (cell_one_new _ _ _) (one_u8 _) (by rw [hl4.out]; omega) (by rw [hl4.out]; unfold maxLen; omega) ?_)
                    intro v8 w8 g8
                    have g8' : Gr w6 none w6.heap.size 5 w8 v8 (bys (l ++ (rowOf (fsOf s1)).take (k4 + 1))) := by
                      rw [← bys_snoc l (rowOf (fsOf s1)) k4 (by rw [HR1.out]; omega)]; exact g8
                    clear g8
                    obtain ⟨ao4, cc4, hv4⟩ := g8'.shapeN (n := n0 + (k4 + 1)) (by rw [bys_pre_len _ _ _ (by rw [HR1.out]; omega), H0.out])
                    go_wp2_with fail
                    go_roundw
                    case rel => exact ⟨k4 + 1, ao4, cc4, by omega, by go_num, hv4, by rw [hv4] at g8'; exact g8'⟩
                    case measure => simp [intOf]; omega
                  · obtain rfl : k4 = r1 - 1 := by omega
                    have hge4 : ¬ ((r1 - 1 : Nat) : Int) < (r1 : Int) - 1 := by omega
                    go_wp2_with (at_builtin; refine wpList_append_gr _ rfl (.tmp 161) (.tmp 162) 22 rfl i5 (.int .u8 0) 1 Trym.underlying22 hi5 hz50 hz51 hz52 rfl rfl (g4.alloc _) ⟨wr.heap.size, 0, none⟩ 1 1 [.int .u8 44] rfl rfl (cell_one_new _ _ _) (one_u8 _) (by rw [hl4.out]; omega) (by rw [hl4.out]; unfold maxLen; omega) ?_)
                    intro v8 w8 g8
                    obtain ⟨M, hM⟩ : ∃ M, M = l ++ joins (fsOf s1) ++ [44] := ⟨_, rfl⟩
                    have gJ : Gr w6 none w6.heap.size 5 w8 v8 (bys (M ++ (rowOf (fsOf s2)).take 0)) := by
                      rw [take_rowEnd HR1.out] at g8
                      rw [List.take_zero, List.append_nil, hM, bys_append]
                      exact g8
                    have hML : Hid (M.length = n0 + r1) := by
                      unfold Hid
                      have e1 := take_rowEnd HR1.out
                      have e2 := congrArg List.length e1
                      rw [List.length_take, HR1.out] at e2
                      rw [hM, List.length_append, List.length_append, H0.out, ← e2]
                      simp only [List.length_cons, List.length_nil]; omega
                    have HM : Hid (M = l ++ joins (fsOf s1) ++ [44]) := hM
                    clear hM g8 g4 hl4 rr6
                    obtain ⟨a8, q8, rfl⟩ := gJ.shapeN (n := n0 + (r1 + 0)) (by rw [bys_pre_len _ _ _ (Nat.zero_le _), hML.out]; omega)
                    go_wp2_with fail
                    go_loopw [15, 18] (fun v i wq => ∃ (k5 : Nat) (a5 : Option Addr) (q5 : Nat), k5 ≤ r2 ∧ i = .int .i64 k5 ∧ v = .slice a5 (n0 + (r1 + k5)) q5 ∧ Gr w6 none w6.heap.size 5 wq (.slice a5 (n0 + (r1 + k5)) q5) (bys (M ++ (rowOf (fsOf s2)).take k5))) (fun _ i _ => r2 - (intOf i).toNat)
                    case atStart => exact ⟨0, _, _, Nat.zero_le _, rfl, rfl, gJ⟩
                    case round =>
                      obtain ⟨k5, a5, q5, hk5, rfl, rfl, g5'⟩ := hrel
                      clear gJ
                      have hl5 : Hid ((bys (M ++ (rowOf (fsOf s2)).take k5)).length = n0 + (r1 + k5)) := by unfold Hid; rw [bys_pre_len _ _ _ (by rw [HR2.out]; omega), hML.out]; omega
                      by_cases hlt5 : k5 < r2
                      · obtain rfl := rq6.addr (by omega)
                        have c3 : wr.cell? ⟨g6, k5, none⟩ = some (.int .u8 (bat (rowOf (fsOf s2)) k5)) := by
                          have := (rq6.below (gr_below g5') (Nat.le_refl _)).cell k5 (by omega)
                          rwa [Nat.zero_add] at this
                        go_wp2_with (at_builtin; refine wpList_append_gr _ rfl (.tmp 170) (.tmp 175) 22 rfl i5 (.int .u8 0) 1 Trym.underlying22 hi5 hz50 hz51 hz52 rfl rfl (g5'.alloc _) ⟨wr.heap.size, 0, none⟩ 1 1 [.int .u8 (bat (rowOf (fsOf s2)) k5)] rfl rfl (cell_one_new _ _ _) (one_u8 _) (by rw [hl5.out]; omega) (by rw [hl5.out]; unfold maxLen; omega) ?_)
                        intro v9 w9 g9
                        have g9' : Gr w6 none w6.heap.size 5 w9 v9 (bys (M ++ (rowOf (fsOf s2)).take (k5 + 1))) := by
                          rw [← bys_snoc M (rowOf (fsOf s2)) k5 (by rw [HR2.out]; omega)]; exact g9
                        clear g9
                        obtain ⟨ao4, cc4, hv4⟩ := g9'.shapeN (n := n0 + (r1 + (k5 + 1))) (by rw [bys_pre_len _ _ _ (by rw [HR2.out]; omega), hML.out]; omega)
                        go_wp2_with fail
                        go_roundw
                        case rel => (repeat apply Exists.intro); refine ⟨?_, rfl⟩; exact ⟨k5 + 1, ao4, cc4, by omega, by go_num, hv4, by rw [hv4] at g9'; exact g9'⟩
                        case measure => simp [intOf]; omega
                      · obtain rfl : r2 = k5 := by omega
                        have hoW := g5'.own
                        rw [hl5.out, List.take_of_length_le (by rw [HR2.out]; exact Nat.le_refl _)] at hoW
                        have hLW : Hid ((M ++ rowOf (fsOf s2)).length = n0 + (r1 + r2)) := by unfold Hid; rw [List.length_append, hML.out, HR2.out]; omega
                        obtain ⟨gw, rw9, hgw⟩ := own_rdB' hLW.out hoW
                        have hB8 := gr_below g5'
                        have rab8 := rab6.below hB8 (Nat.le_refl _)
                        have hd8 := kept_none hd6 g5'.grown
                        have hs8 := hB8.size
                        have hBw8 := hBw6.trans (hB8.mono (by omega))
                        have hEq : Hid (l ++ rowOf (fsOf (s1 ++ s2)) = M ++ rowOf (fsOf s2)) := by
                          unfold Hid
                          rw [HM.out, rowOf_joined s1 s2 (fun e => by have := H1.out; rw [e] at this; simp at this; omega) (fun e => by have := H2.out; rw [e] at this; simp at this; omega)]
                          simp
                        have hR3 : Hid ((rowOf (fsOf (s1 ++ s2))).length = r1 + r2) := by
                          unfold Hid
                          have := congrArg List.length hEq.out
                          rw [List.length_append, hLW.out, H0.out] at this
                          omega
                        have hT3 : Hid (tot (fsOf (s1 ++ s2)) = tot (fsOf s1) + tot (fsOf s2)) := by unfold Hid; rw [fsOf_append, tot_append]
                        clear g5' hl5 hoW hB8 rab6 hd6 hBw6 rq6
                        go_wp2_with fail
                        refine (zzRow_sh wr ao1 n0 c1 l H0.out hd8 (by omega) ap gab 0 (n1 + n2) cp (s1 ++ s2) hLab.out rab8 (fun e => by have a := (HDL.out gab e).2; have b := hgab (by omega); omega) (r1 + r2) hR3.out (by rw [hT3.out]; omega)).mono ?_
                        rintro e w10 ⟨ao10, c10, rfl, ho10, hg10, hc10⟩
                        have hBw10 := hBw8.grown hg10 (by omega) (fun k hk => by have := (HDL.out k hk).1; omega)
                        have rw10 := rw9.grown hg10 (fun e => by have a := (HDL.out gw e).2; have b := hgw (by omega); omega)
                        have ho10' := ho10
                        rw [hEq.out] at ho10'
                        obtain ⟨gg, rgot⟩ := own_rdB hLW.out ho10'
                        clear ho10 ho10' hg10 hBw8 rw9 hd8
                        go_wp2_with fail
                        refine (equal_any ao10 gg 0 (n0 + (r1 + r2)) c10 (M ++ rowOf (fsOf s2)) a5 gw 0 q5 (M ++ rowOf (fsOf s2)) w10 rgot rw10 (by omega) (fun _ _ => rfl)).mono ?_
                        rintro e w11 ⟨q, rfl, rfl⟩
                        go_wp2_with fail
                        go_ret
                        exact ⟨rfl, below_drewN hBw10 _⟩
end Go.Proofs.Qxb6000036aMods
