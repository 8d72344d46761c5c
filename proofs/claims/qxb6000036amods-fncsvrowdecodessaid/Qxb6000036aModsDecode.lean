/-
  THE WALK OF rb1DecodeField (13): at a quoted field, at a bare field.
-/
import Derived.Test.Qxb6000036aModsStrs
import Derived.Laws.IdiomStrings
namespace Go.Proofs.Qxb6000036aMods
open Go.RowKit Csv

/-! ### FOUR RESULTS -/
theorem results_four {fn : Func} {t u v x : Tmp} (h : fn.results = #[.tmp t, .tmp u, .tmp v, .tmp x]) (tmps : Array Value) (P : Program) (w : World) :
    (results fn tmps).run P w = .ok (.tuple #[tmps.getD t undef, tmps.getD u undef, tmps.getD v undef, tmps.getD x undef]) w := by
  simp [results, h]

/-! ### Bytes behind a place -/
theorem at_drop {L X Y : List UInt8} {a : Nat} {c : UInt8} (h : L.drop a = X ++ c :: Y) : bat L (a + X.length) = c.toNat ∧ a + X.length < L.length := by
  have h1 : L[a + X.length]? = some c := by
    rw [← List.getElem?_drop, h, List.getElem?_append_right (Nat.le_refl _), Nat.sub_self]; rfl
  obtain ⟨h2, h3⟩ := List.getElem?_eq_some_iff.1 h1
  exact ⟨by rw [bat_eq h2, h3], h2⟩

theorem body_append (a b : List UInt8) : body (a ++ b) = body a ++ body b := by simp [body]
theorem body_split (l : List UInt8) (k : Nat) (h : k < l.length) : body l = body (l.take k) ++ (dbl l[k] ++ body (l.drop (k + 1))) := by
  have e : l = l.take k ++ (l[k] :: l.drop (k + 1)) := by rw [← drop_cons h, List.take_append_drop]
  calc body l = body (l.take k ++ (l[k] :: l.drop (k + 1))) := by rw [← e]
    _ = _ := by rw [body_append, body_cons]

/-- A string's bytes turned back into it. -/
theorem conv_own {w : World} {base : Nat} {ao : Option Addr} {n cap : Nat} {l : List UInt8} (hl : l.length = n) (h : w.ownsRow base 5 1 (.slice ao n cap) n (bys l)) :
    (convert 22 9 (.slice ao n cap)).run Trym.prog w = .ok (.string ⟨l.toArray⟩) w := by
  subst hl
  rcases h.2 with ⟨h1, h2⟩ | ⟨g, cap', cur, hv, hb, hg, hn, hc, hs, ht⟩
  · obtain rfl : l = [] := List.eq_nil_of_length_eq_zero h2
    simp only [Value.slice.injEq] at h1
    obtain ⟨rfl, _, rfl⟩ := h1
    rw [run_convert_bytes_string w 22 9 5 none _ _ Trym.underlying22 Trym.underlying5 Trym.underlying9]
    rfl
  · simp only [Value.slice.injEq, true_and] at hv
    obtain ⟨rfl, rfl⟩ := hv
    refine run_convert_bytes_back w 22 9 5 ⟨g, 0, none⟩ cap l Trym.underlying22 Trym.underlying5 Trym.underlying9 (fun j hj => ?_)
    rw [Addr.add_lit, Nat.zero_add, h.cellAt j (by omega), bys_at hj, bat_eq hj]

theorem str_back (s : ByteArray) : (⟨s.data.toList.toArray⟩ : ByteArray) = s := rfl

/-- Where the loop over a quoted field stands when k bytes have been read. -/
def qpos (pos : Nat) (l : List UInt8) (k : Nat) : Nat := pos + 1 + (body (l.take k)).length
theorem qpos_zero (pos : Nat) (l : List UInt8) : qpos pos l 0 = pos + 1 := rfl
theorem qpos_quote {s : ByteArray} {pos k : Nat} (h : k < s.size) (hc : s[k].toNat = 34) : qpos pos s.data.toList (k + 1) = qpos pos s.data.toList k + 2 := by
  unfold qpos
  rw [str_take_snoc s k h, body_snoc, dbl_quote hc, List.length_append]
  simp only [List.length_cons, List.length_nil]; omega
theorem qpos_other {s : ByteArray} {pos k : Nat} (h : k < s.size) (hc : ¬ s[k].toNat = 34) : qpos pos s.data.toList (k + 1) = qpos pos s.data.toList k + 1 := by
  unfold qpos
  rw [str_take_snoc s k h, body_snoc, dbl_other hc, List.length_append]
  simp only [List.length_cons, List.length_nil]; omega
theorem qpos_all (pos : Nat) (s : ByteArray) : qpos pos s.data.toList s.size = pos + 1 + (body s.data.toList).length := by
  unfold qpos
  rw [List.take_of_length_le (by simp)]

/-- What lies at that place. -/
theorem qat_quote {L rest : List UInt8} {s : ByteArray} {pos k : Nat} (hD : L.drop pos = 34 :: (body s.data.toList ++ 34 :: rest)) (h : k < s.size) (hc : s[k].toNat = 34) :
    bat L (qpos pos s.data.toList k) = 34 ∧ bat L (qpos pos s.data.toList k + 1) = 34 ∧ qpos pos s.data.toList k + 1 < L.length := by
  have hb := body_split s.data.toList k (by simpa using h)
  rw [show s.data.toList[k]'(by simpa using h) = s[k] from rfl, dbl_quote hc] at hb
  rw [hb] at hD
  have h1 := at_drop (X := 34 :: body (s.data.toList.take k)) (c := 34) (Y := 34 :: (body (s.data.toList.drop (k + 1)) ++ 34 :: rest)) (by rw [hD]; simp)
  have h2 := at_drop (X := 34 :: (body (s.data.toList.take k) ++ [34])) (c := 34) (Y := body (s.data.toList.drop (k + 1)) ++ 34 :: rest) (by rw [hD]; simp)
  unfold qpos
  simp only [List.length_cons, List.length_append, List.length_nil] at h1 h2
  rw [show pos + 1 + (body (s.data.toList.take k)).length = pos + ((body (s.data.toList.take k)).length + 1) by omega, show pos + ((body (s.data.toList.take k)).length + 1) + 1 = pos + ((body (s.data.toList.take k)).length + (0 + 1) + 1) by omega]
  exact ⟨h1.1, h2.1, h2.2⟩
theorem qat_other {L rest : List UInt8} {s : ByteArray} {pos k : Nat} (hD : L.drop pos = 34 :: (body s.data.toList ++ 34 :: rest)) (h : k < s.size) (hc : ¬ s[k].toNat = 34) :
    bat L (qpos pos s.data.toList k) = s[k].toNat ∧ qpos pos s.data.toList k < L.length := by
  have hb := body_split s.data.toList k (by simpa using h)
  rw [show s.data.toList[k]'(by simpa using h) = s[k] from rfl, dbl_other hc] at hb
  rw [hb] at hD
  have h1 := at_drop (X := 34 :: body (s.data.toList.take k)) (c := s[k]) (Y := body (s.data.toList.drop (k + 1)) ++ 34 :: rest) (by rw [hD]; simp)
  unfold qpos
  simp only [List.length_cons] at h1
  rw [show pos + 1 + (body (s.data.toList.take k)).length = pos + ((body (s.data.toList.take k)).length + 1) by omega]
  exact h1
theorem qat_end {L rest : List UInt8} {s : ByteArray} {pos : Nat} (hD : L.drop pos = 34 :: (body s.data.toList ++ 34 :: rest)) (hrest : ∀ c r, rest = c :: r → c.toNat ≠ 34) :
    bat L (qpos pos s.data.toList s.size) = 34 ∧ qpos pos s.data.toList s.size < L.length ∧ (qpos pos s.data.toList s.size + 1 < L.length → bat L (qpos pos s.data.toList s.size + 1) ≠ 34) := by
  rw [qpos_all]
  have h1 := at_drop (X := 34 :: body s.data.toList) (c := 34) (Y := rest) (by rw [hD]; simp)
  simp only [List.length_cons] at h1
  rw [show pos + 1 + (body s.data.toList).length = pos + ((body s.data.toList).length + 1) by omega]
  refine ⟨h1.1, h1.2, fun hlt => ?_⟩
  cases hr : rest with
  | nil =>
    have := congrArg List.length hD
    rw [List.length_drop, hr] at this
    simp only [List.length_cons, List.length_append, List.length_nil] at this
    omega
  | cons c r =>
    have h2 := at_drop (X := 34 :: (body s.data.toList ++ [34])) (c := c) (Y := r) (by rw [hD, hr]; simp)
    simp only [List.length_cons, List.length_append, List.length_nil] at h2
    rw [show pos + ((body s.data.toList).length + 1) + 1 = pos + ((body s.data.toList).length + (0 + 1) + 1) by omega, h2.1]
    exact hrest c r hr

theorem bys_str_snoc {s : ByteArray} {k : Nat} (h : k < s.size) : bys (s.data.toList.take k) ++ [.int .u8 s[k].toNat] = bys (s.data.toList.take (k + 1)) := by
  rw [str_take_snoc s k h, bys_append]; rfl
theorem take_len {s : ByteArray} {k : Nat} (h : k ≤ s.size) : (bys (s.data.toList.take k)).length = k := by
  rw [bys_len, List.length_take, str_len]; omega

set_option maxHeartbeats 1600000 in
theorem decode_quoted (b off n cap pos : Nat) (L rest : List UInt8) (s : ByteArray) (w : World) (hL : L.length = n) (hr : RdB w (some ⟨b, off, none⟩) b off n L) (hn : n ≤ 140737488355328)
    (hD : L.drop pos = 34 :: (body s.data.toList ++ 34 :: rest)) (hrest : ∀ c r, rest = c :: r → c.toNat ≠ 34) :
    Calls Trym.prog 13 #[.slice (some ⟨b, off, none⟩) n cap, .int .i64 pos] w fun e w' => e = .returned (.tuple #[.string s, .bool true, .int .i64 ((qpos pos s.data.toList s.size + 1 : Nat) : Int), .bool true]) ∧ w.grownBy w' none := by
  obtain ⟨i0, hi, hz0, hz1, hz2⟩ := info_parts Trym.info5
  have h0 := at_drop (X := []) (c := 34) (Y := body s.data.toList ++ 34 :: rest) hD
  have HL : Hid (L.length = n) := hL
  have hpn : pos < n := by have := h0.2; simp at this; omega
  have c0 : w.cell? ⟨b, off + pos, none⟩ = some (.int .u8 34) := by
    rw [hr.cell pos hpn]
    have := h0.1
    simp only [List.length_nil, Nat.add_zero] at this
    rw [this]; rfl
  have hsz : Hid (s.size ≤ n) := by
    unfold Hid
    have := congrArg List.length hD
    have hb := (body_len s.data.toList).1
    rw [List.length_drop] at this
    simp only [List.length_cons, List.length_append, str_len] at this hb
    omega
  have HD : Hid (L.drop pos = 34 :: (body s.data.toList ++ 34 :: rest)) := hD
  have HRest : Hid (∀ c r, rest = c :: r → c.toNat ≠ 34) := hrest
  clear h0 hD hrest hL
  have hpn' : (pos : Int) < (n : Int) := by omega
  go_enter Trym.func13, Trym.ntmps13
  go_wp2
  go_loopw [8, 9] (fun v i wr => ∃ (k p : Nat) (a : Option Addr) (c : Nat), k ≤ s.size ∧ i = .int .i64 p ∧ v = .slice a k c ∧ Hid (p = qpos pos s.data.toList k) ∧ Gr w none w.heap.size 5 wr (.slice a k c) (bys (s.data.toList.take k))) (fun _ i _ => n - (intOf i).toNat)
  case atStart => exact ⟨0, pos + 1, none, 0, Nat.zero_le _, by go_num, rfl, rfl, Gr.none _ _ _ (Nat.le_refl _)⟩
  case round =>
    obtain ⟨k, p, a, c, hk, rfl, rfl, HP, gk⟩ := hrel
    have hlen : Hid ((bys (s.data.toList.take k)).length = k) := take_len hk
    by_cases hlt : k < s.size
    · have hszo := hsz.out
      by_cases hc : s[k].toNat = 34
      · have hq := qat_quote HD.out hlt hc
        rw [← HP.out, HL.out] at hq
        obtain ⟨q1, q2, q3⟩ := hq
        have hw := hr.grown gk.grown (by simp)
        have c1 : wr.cell? ⟨b, off + p, none⟩ = some (.int .u8 34) := by rw [hw.cell p (by omega), q1]; rfl
        have c2 : wr.cell? ⟨b, off + (p + 1), none⟩ = some (.int .u8 34) := by rw [hw.cell (p + 1) (by omega), q2]; rfl
        have l1 : (p : Int) < (n : Int) := by omega
        have l2 : (p : Int) + 1 < (n : Int) := by omega
        have HC : Hid (s[k].toNat = 34) := hc
        clear q1 q2 hw hc
        go_wp2_with (at_builtin; refine wpList_append_gr _ rfl (.tmp 48) (.tmp 49) 22 rfl i0 (.int .u8 0) 1 Trym.underlying22 hi hz0 hz1 hz2 rfl rfl (gk.alloc _) ⟨wr.heap.size, 0, none⟩ 1 1 [.int .u8 34] rfl rfl (cell_one_new _ _ _) (one_u8 _) (by rw [hlen.out]; omega) (by rw [hlen.out]; unfold maxLen; omega) ?_)
        intro v1 w1 g1
        have g1' : Gr w none w.heap.size 5 w1 v1 (bys (s.data.toList.take (k + 1))) := by
          rw [← bys_str_snoc hlt, HC.out]; exact g1
        clear g1
        obtain ⟨a1, c1', hv1⟩ := g1'.shapeN (n := k + 1) (take_len hlt)
        go_wp2
        go_roundw
        case rel => exact ⟨k + 1, p + 2, a1, c1', hlt, by go_num, hv1, by unfold Hid; rw [qpos_quote hlt HC.out, HP.out], by rw [hv1] at g1'; exact g1'⟩
        case measure => simp [intOf]; omega
      · have hq := qat_other HD.out hlt hc
        rw [← HP.out, HL.out] at hq
        obtain ⟨q1, q3⟩ := hq
        have hw := hr.grown gk.grown (by simp)
        have c1 : wr.cell? ⟨b, off + p, none⟩ = some (.int .u8 s[k].toNat) := by rw [hw.cell p (by omega), q1]
        have l1 : (p : Int) < (n : Int) := by omega
        have HC : Hid (¬ s[k].toNat = 34) := hc
        have hcb : ((s[k].toNat : Int) == 34) = false := by simp; omega
        clear q1 hw hc
        go_wp2_with (at_builtin; refine wpList_append_gr _ rfl (.tmp 57) (.tmp 59) 22 rfl i0 (.int .u8 0) 1 Trym.underlying22 hi hz0 hz1 hz2 rfl rfl (gk.alloc _) ⟨wr.heap.size, 0, none⟩ 1 1 [.int .u8 s[k].toNat] rfl rfl (cell_one_new _ _ _) (one_u8 _) (by rw [hlen.out]; omega) (by rw [hlen.out]; unfold maxLen; omega) ?_)
        intro v1 w1 g1
        have g1' : Gr w none w.heap.size 5 w1 v1 (bys (s.data.toList.take (k + 1))) := by
          rw [← bys_str_snoc hlt]; exact g1
        clear g1
        obtain ⟨a1, c1', hv1⟩ := g1'.shapeN (n := k + 1) (take_len hlt)
        go_wp2
        go_roundw
        case rel => exact ⟨k + 1, p + 1, a1, c1', hlt, by go_num, hv1, by unfold Hid; rw [qpos_other hlt HC.out, HP.out], by rw [hv1] at g1'; exact g1'⟩
        case measure => simp [intOf]; omega
    · obtain rfl : k = s.size := by omega
      have hq := qat_end HD.out HRest.out
      rw [← HP.out, HL.out] at hq
      obtain ⟨q1, q2, q3⟩ := hq
      have hw := hr.grown gk.grown (by simp)
      have c1 : wr.cell? ⟨b, off + p, none⟩ = some (.int .u8 34) := by rw [hw.cell p (by omega), q1]; rfl
      have l1 : (p : Int) < (n : Int) := by omega
      have hcv : (convert 22 9 (.slice a s.size c)).run Trym.prog wr = .ok (.string s) wr := by
        have ho := gk.own
        rw [hlen.out, List.take_of_length_le (by simp)] at ho
        have := conv_own (str_len s) ho
        rwa [str_back] at this
      by_cases h2 : p + 1 < n
      · have hne := q3 h2
        have c2 : wr.cell? ⟨b, off + (p + 1), none⟩ = some (.int .u8 (bat L (p + 1))) := hw.cell (p + 1) h2
        have hcb : ((bat L (p + 1) : Int) == 34) = false := by simp; omega
        have l2 : (p : Int) + 1 < (n : Int) := by omega
        clear q1 q3 hw hne
        go_wp2
        refine bodyPost_ret (results_four rfl _ _ _) rfl ?_
        exact ⟨by rw [← HP.out]; rfl, gk.grown⟩
      · have l2 : ¬ (p : Int) + 1 < (n : Int) := by omega
        have l2' : decide ((p : Int) + 1 < (n : Int)) = false := decide_eq_false l2
        clear q1 q3 hw
        go_wp2
        refine bodyPost_ret (results_four rfl _ _ _) rfl ?_
        exact ⟨by rw [← HP.out]; rfl, gk.grown⟩
end Go.Proofs.Qxb6000036aMods
