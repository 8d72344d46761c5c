/-
  THE WALK OF rb1DecodeRow (20) over a row that csvRow has written.
-/
import Derived.Test.Qxb6000036aModsBare
namespace Go.Proofs.Qxb6000036aMods
namespace Csv

/-- Where field k of a row begins. -/
def rpos (fs : List (List UInt8)) (k : Nat) : Nat := ((fs.take k).map fun f => (field f).length + 1).sum
theorem rpos_zero (fs : List (List UInt8)) : rpos fs 0 = 0 := rfl
theorem rpos_succ (fs : List (List UInt8)) (k : Nat) (h : k < fs.length) : rpos fs (k + 1) = rpos fs k + (field fs[k]).length + 1 := by
  unfold rpos
  rw [List.take_succ_eq_append_getElem h, List.map_append, List.sum_append]
  simp only [List.map_cons, List.map_nil, List.sum_cons, List.sum_nil]; omega
theorem rowOf_cons (f : List UInt8) (r : List (List UInt8)) (h : r ≠ []) : rowOf (f :: r) = field f ++ 44 :: rowOf r := by
  have := rowOf_append [f] r (by simp) h
  rwa [joins_one] at this
theorem rowOf_one (f : List UInt8) : rowOf [f] = field f ++ [10] := by rw [rowOf, joins_one]
theorem row_drop (fs : List (List UInt8)) (k : Nat) (h : k < fs.length) : (rowOf fs).drop (rpos fs k) = rowOf (fs.drop k) := by
  induction fs generalizing k with
  | nil => simp at h
  | cons f r ih =>
    cases k with
    | zero => simp [rpos]
    | succ k =>
      have hr : k < r.length := by simpa using h
      have hne : r ≠ [] := by intro e; rw [e] at hr; simp at hr
      have e1 : rpos (f :: r) (k + 1) = (field f).length + 1 + rpos r k := by simp [rpos]
      rw [e1, rowOf_cons f r hne, ← List.drop_drop, List.drop_succ_cons]
      · rw [← ih k hr, List.drop_append]
        have e2 : List.drop ((field f).length + 1) (field f) = [] := List.drop_of_length_le (by omega)
        simp [e2]
theorem row_mid (fs : List (List UInt8)) (k : Nat) (h : k + 1 < fs.length) : (rowOf fs).drop (rpos fs k) = field (fs[k]'(by omega)) ++ 44 :: rowOf (fs.drop (k + 1)) := by
  rw [row_drop fs k (by omega), List.drop_eq_getElem_cons (by omega), rowOf_cons]
  intro e
  have := congrArg List.length e
  rw [List.length_drop] at this
  simp at this; omega
theorem row_last (fs : List (List UInt8)) (k : Nat) (h : k < fs.length) (hl : k + 1 = fs.length) : (rowOf fs).drop (rpos fs k) = field (fs[k]'h) ++ 10 :: [] := by
  rw [row_drop fs k h, List.drop_eq_getElem_cons h, List.drop_of_length_le (by omega), rowOf_one]
end Csv
open Go.RowKit Csv

/-- rb1DecodeField at a field that csvField has written, a comma or a line feed behind it. -/
theorem decode_any (b off n cap pos : Nat) (L rest : List UInt8) (c : UInt8) (s : ByteArray) (F : Nat) (w : World) (hL : L.length = n) (hr : RdB w (some ⟨b, off, none⟩) b off n L) (hn : n ≤ 140737488355328) (hcap : n ≤ cap)
    (hF : (field s.data.toList).length = F) (hD : L.drop pos = field s.data.toList ++ c :: rest) (hc : c.toNat = 44 ∨ c.toNat = 10) :
    Calls Trym.prog 13 #[.slice (some ⟨b, off, none⟩) n cap, .int .i64 pos] w fun e w' => e = .returned (.tuple #[.string s, .bool (hasSpc s.data.toList), .int .i64 ((pos + F : Nat) : Int), .bool true]) ∧ w.grownBy w' none := by
  cases hsp : hasSpc s.data.toList with
  | true =>
    rw [field_pos _ hsp] at hD hF
    have h1 := decode_quoted b off n cap pos L (c :: rest) s w hL hr hn (by rw [hD]; simp) (fun c' r' e => by injection e with e1 e2; subst e1; omega)
    have h2 : qpos pos s.data.toList s.size + 1 = pos + F := by
      rw [qpos_all, ← hF]; simp only [List.length_cons, List.length_append, List.length_nil]; omega
    rw [h2] at h1
    exact h1
  | false =>
    rw [field_neg _ hsp] at hD hF
    have h1 := decode_bare b off n cap pos L rest c s w hL hr hn hcap hsp hD hc
    rw [str_len] at hF
    rw [hF] at h1
    exact h1.mono fun e w' ⟨he, hw⟩ => ⟨he, by rw [← hw]; exact World.grownBy.refl _ _⟩

/-! ### Two slices of the call's own, side by side -/
def boolV (ss : List ByteArray) : List Value := ss.map fun s => Value.bool (hasSpc s.data.toList)
theorem boolV_len (ss : List ByteArray) : (boolV ss).length = ss.length := by simp [boolV]
theorem boolV_at {ss : List ByteArray} {j : Nat} (h : j < ss.length) : (boolV ss)[j]? = some (.bool (hasSpc (sat ss j).data.toList)) := by simp [boolV, h, sat_eq h]
theorem boolV_snoc {ss : List ByteArray} {k : Nat} (h : k < ss.length) : boolV (ss.take k) ++ [.bool (hasSpc (sat ss k).data.toList)] = boolV (ss.take (k + 1)) := by
  rw [List.take_succ_eq_append_getElem h, sat_eq h]; unfold boolV; rw [List.map_append]; rfl
theorem one_bool (q : Bool) : ∀ u ∈ [Value.bool q], u.oneCell' = true := by
  intro u hu; simp at hu; subst hu; rfl

structure Two (W w : World) (v1 v2 : Value) (x1 x2 : List Value) : Prop where
  g1 : Gr W none W.heap.size 9 w v1 x1
  g2 : Gr W none W.heap.size 4 w v2 x2
  ne : ∀ k, v1.ownBlock = some k → v2.ownBlock ≠ some k

section
variable {W w : World} {v1 v2 : Value} {x1 x2 : List Value}
theorem Two.start (w : World) : Two w w (.slice none 0 0) (.slice none 0 0) [] [] :=
  ⟨Gr.none _ _ _ (Nat.le_refl _), Gr.none _ _ _ (Nat.le_refl _), fun k h => by simp [Value.ownBlock] at h⟩
theorem Two.kept {w' : World} (h : Two W w v1 v2 x1 x2) (hg : w.grownBy w' none) : Two W w' v1 v2 x1 x2 :=
  ⟨h.g1.kept hg (fun k hk => by cases hk) (by cases hv : v1.ownBlock <;> simp), h.g2.kept hg (fun k hk => by cases hk) (by cases hv : v2.ownBlock <;> simp), h.ne⟩
theorem Two.alloc (h : Two W w v1 v2 x1 x2) (o : Obj) : Two W (w.alloc o) v1 v2 x1 x2 := h.kept (World.grownBy_alloc w o none)
theorem Two.row1 (h : Two W w v1 v2 x1 x2) : ∀ k, v1.ownBlock = some k → W.heap.size ≤ k := fun k hk => (h.g1.own.lt k hk).1
theorem Two.row2 (h : Two W w v1 v2 x1 x2) : ∀ k, v2.ownBlock = some k → W.heap.size ≤ k := fun k hk => (h.g2.own.lt k hk).1
theorem Two.step1 {w' : World} {v' : Value} {n' : Nat} {news : List Value} (h : Two W w v1 v2 x1 x2) (hown : w'.ownsRow W.heap.size 9 1 v' n' (x1 ++ news)) (hg : w.grownBy w' v1.ownBlock) (hat : v'.ownBlock = v1.ownBlock ∨ v'.ownBlock = some w.heap.size) : Two W w' v' v2 (x1 ++ news) x2 := by
  refine ⟨h.g1.step hown hg hat, h.g2.kept hg h.row1 ?_, fun k hk e => ?_⟩
  · cases hv : v2.ownBlock with
    | none => exact .inl rfl
    | some k => exact .inr fun e => h.ne k e.symm hv
  · rcases hat with h1 | h1
    · exact h.ne k (h1 ▸ hk) e
    · rw [h1] at hk
      have h2 : w.heap.size = k := by simpa using hk
      have := (h.g2.own.lt k e).2
      omega
theorem Two.step2 {w' : World} {v' : Value} {n' : Nat} {news : List Value} (h : Two W w v1 v2 x1 x2) (hown : w'.ownsRow W.heap.size 4 1 v' n' (x2 ++ news)) (hg : w.grownBy w' v2.ownBlock) (hat : v'.ownBlock = v2.ownBlock ∨ v'.ownBlock = some w.heap.size) : Two W w' v1 v' x1 (x2 ++ news) := by
  refine ⟨h.g1.kept hg h.row2 ?_, h.g2.step hown hg hat, fun k hk e => ?_⟩
  · cases hv : v1.ownBlock with
    | none => exact .inl rfl
    | some k => exact .inr fun e => h.ne k hv e.symm
  · rcases hat with h1 | h1
    · exact h.ne k hk (h1 ▸ e)
    · rw [h1] at e
      have h2 : w.heap.size = k := by simpa using e
      have := (h.g1.own.lt k hk).2
      omega
end

section
variable (w : World)
theorem wpList_append_two1 {ops : Array Oper} {rest : List Oper} {o : Oper} {a : Act} {Q : Exit → Act → World → Prop} (hgd : o.guard = none) (s x : Operand)
    (ho : o.op = .call { callee := .builtin .append, args := #[s, x], argTypes := #[31, 31] })
    {W : World} {v1 v2 : Value} {x1 x2 : List Value} (hs : a.eval s = v1) (h : Two W w v1 v2 x1 x2)
    (ad : Addr) (c : Nat) (u : ByteArray) (hx : a.eval x = .slice (some ad) 1 c) (hnews : ∀ j y, [Value.string u][j]? = some y → w.cell? (ad.add j) = some y)
    (hb : x1.length ≤ 1048576)
    (hK : ∀ v' w', Two W w' v' v2 (x1 ++ [.string u]) x2 → wpList Trym.prog ops Q rest (a.put o.dst v') w') : wpList Trym.prog ops Q (o :: rest) a w := by
  obtain ⟨i9, hi9, hz90, hz91, hz92⟩ := info_parts Trym.info9
  exact wpList_append_own_at (P := Trym.prog) w hgd s x 31 ho W.heap.size 9 i9 (.string ByteArray.empty) 1 16 Trym.underlying31 hi9 hz90 hz91 hz92 rfl (by decide) v1 x1.length x1 hs h.g1.own ad 1 c [.string u] hx rfl hnews (one_str u) (by unfold maxLen; omega) (by omega) h.g1.big
    fun v' w' hown hg _ hat => hK v' w' (h.step1 hown hg hat)
theorem wpList_append_two2 {ops : Array Oper} {rest : List Oper} {o : Oper} {a : Act} {Q : Exit → Act → World → Prop} (hgd : o.guard = none) (s x : Operand)
    (ho : o.op = .call { callee := .builtin .append, args := #[s, x], argTypes := #[35, 35] })
    {W : World} {v1 v2 : Value} {x1 x2 : List Value} (hs : a.eval s = v2) (h : Two W w v1 v2 x1 x2)
    (ad : Addr) (c : Nat) (u : Bool) (hx : a.eval x = .slice (some ad) 1 c) (hnews : ∀ j y, [Value.bool u][j]? = some y → w.cell? (ad.add j) = some y)
    (hb : x2.length ≤ 1048576)
    (hK : ∀ v' w', Two W w' v1 v' x1 (x2 ++ [.bool u]) → wpList Trym.prog ops Q rest (a.put o.dst v') w') : wpList Trym.prog ops Q (o :: rest) a w := by
  obtain ⟨i4, hi4, hz40, hz41, hz42⟩ := info_parts Trym.info4
  exact wpList_append_own_at (P := Trym.prog) w hgd s x 35 ho W.heap.size 4 i4 (.bool false) 1 1 Trym.underlying35 hi4 hz40 hz41 hz42 rfl (by decide) v2 x2.length x2 hs h.g2.own ad 1 c [.bool u] hx rfl hnews (one_bool u) (by unfold maxLen; omega) (by omega) h.g2.big
    fun v' w' hown hg _ hat => hK v' w' (h.step2 hown hg hat)
end

theorem ret_row {v1 v2 u1 u2 : Value} {b : Bool} (h1 : v1 = u1) (h2 : v2 = u2) (h : b = true) : Ending.returned (.tuple #[v1, v2, .bool b]) = .returned (.tuple #[u1, u2, .bool true]) := by rw [h1, h2, h]

set_option maxHeartbeats 1600000 in
theorem decodeRow_any (b off n cap m : Nat) (ss : List ByteArray) (w : World) (hm0 : 0 < m) (hm : ss.length = m) (hmm : m ≤ 1048576) (hL : (rowOf (fsOf ss)).length = n) (hr : RdB w (some ⟨b, off, none⟩) b off n (rowOf (fsOf ss))) (hn : n ≤ 140737488355328) (hcap : n ≤ cap) :
    Calls Trym.prog 20 #[.slice (some ⟨b, off, none⟩) n cap] w fun e w' => ∃ a1 c1 a2 c2, e = .returned (.tuple #[.slice a1 m c1, .slice a2 m c2, .bool true]) ∧ w'.ownsRow w.heap.size 9 1 (.slice a1 m c1) m (strV ss) ∧ w'.ownsRow w.heap.size 4 1 (.slice a2 m c2) m (boolV ss) ∧ w.grownBy w' none := by
  have HM : Hid (ss.length = m) := hm
  have HL : Hid ((rowOf (fsOf ss)).length = n) := hL
  have hn0 : 0 < n := by have := (rowOf_len (fsOf ss)).1; omega
  clear hm hL
  go_enter Trym.func20, Trym.ntmps20
  go_wp2
  go_loopw [5, 6, 7] (fun f q i wr => ∃ (k p : Nat) (a1 : Option Addr) (c1 : Nat) (a2 : Option Addr) (c2 : Nat), k < m ∧ i = .int .i64 p ∧ f = .slice a1 k c1 ∧ q = .slice a2 k c2 ∧ p < n ∧ Hid (p = rpos (fsOf ss) k) ∧ Two w wr (.slice a1 k c1) (.slice a2 k c2) (strV (ss.take k)) (boolV (ss.take k))) (fun _ _ i _ => n - (intOf i).toNat)
  case atStart => exact ⟨0, 0, none, 0, none, 0, hm0, rfl, rfl, rfl, hn0, rfl, Two.start _⟩
  case round =>
    obtain ⟨k, p, a1, c1, a2, c2, hk, rfl, rfl, rfl, hp, HP, tw⟩ := hrel
    have hks : k < ss.length := by rw [HM.out]; exact hk
    have hkf : k < (fsOf ss).length := by rw [fsOf_len]; exact hks
    obtain ⟨F, hF⟩ : ∃ F, (field (sat ss k).data.toList).length = F := ⟨_, rfl⟩
    have l1 : Hid ((strV (ss.take k)).length = k) := by unfold Hid; rw [strV_len, List.length_take, HM.out]; omega
    have l2 : Hid ((boolV (ss.take k)).length = k) := by unfold Hid; rw [boolV_len, List.length_take, HM.out]; omega
    have HF : Hid ((field (sat ss k).data.toList).length = F) := hF
    clear hF
    have HKS : Hid (k < ss.length) := hks
    by_cases hk1 : k + 1 < m
    · have hD := row_mid (fsOf ss) k (by rw [fsOf_len, HM.out]; exact hk1)
      have hps := rpos_succ (fsOf ss) k hkf
      rw [fsOf_at hks] at hD hps
      rw [← HP.out] at hD hps
      rw [HF.out] at hps
      have hnx := at_drop (X := field (sat ss k).data.toList) hD
      rw [HF.out, HL.out] at hnx
      obtain ⟨hx1, hx2⟩ := hnx
      have HX : Hid (bat (rowOf (fsOf ss)) (p + F) = 44) := hx1
      have HPS : Hid (rpos (fsOf ss) (k + 1) = p + F + 1) := hps
      have HDD : Hid ((rowOf (fsOf ss)).drop p = field (sat ss k).data.toList ++ 44 :: rowOf ((fsOf ss).drop (k + 1))) := hD
      have hpl : p + F + 1 < n := by
        have h1 := row_drop (fsOf ss) (k + 1) (by rw [fsOf_len, HM.out]; exact hk1)
        have h2 := (rowOf_len ((fsOf ss).drop (k + 1))).1
        rw [← h1, List.length_drop, HL.out, HPS.out] at h2
        omega
      clear hx1 hps hD hks hkf
      go_wp2_with fail
      refine (decode_any b off n cap p (rowOf (fsOf ss)) _ 44 (sat ss k) F wr HL.out (hr.grown tw.g1.grown (by simp)) hn hcap HF.out HDD.out (.inl rfl)).mono ?_
      rintro e w1 ⟨rfl, hg1⟩
      have tw1 := tw.kept hg1
      clear tw hg1
      go_wp2_with (at_builtin; refine wpList_append_two1 _ rfl (.tmp 32) (.tmp 34) rfl rfl (tw1.alloc _) ⟨w1.heap.size, 0, none⟩ 1 (sat ss k) rfl (cell_one_new _ _ _) (by rw [l1.out]; omega) ?_)
      intro v3 w3 tw3
      go_wp2_with (at_builtin; refine wpList_append_two2 _ rfl (.tmp 36) (.tmp 38) rfl rfl (tw3.alloc _) ⟨w3.heap.size, 0, none⟩ 1 (hasSpc (sat ss k).data.toList) rfl (cell_one_new _ _ _) (by rw [l2.out]; omega) ?_)
      intro v4 w4 tw4
      rw [strV_snoc HKS.out, boolV_snoc HKS.out] at tw4
      have c5 : w4.cell? ⟨b, off + (p + F), none⟩ = some (.int .u8 44) := by
        rw [(hr.grown tw4.g1.grown (by simp)).cell (p + F) (by omega), HX.out]; rfl
      obtain ⟨b1, d1, hv3⟩ := tw4.g1.shapeN (n := k + 1) (by rw [strV_len, List.length_take, HM.out]; omega)
      obtain ⟨b2, d2, hv4⟩ := tw4.g2.shapeN (n := k + 1) (by rw [boolV_len, List.length_take, HM.out]; omega)
      clear tw1 tw3
      go_wp2_with fail
      go_roundw
      case rel => exact ⟨k + 1, p + F + 1, b1, d1, b2, d2, hk1, by go_num, hv3, hv4, hpl, HPS.out.symm, by rw [hv3, hv4] at tw4; exact tw4⟩
      case measure => simp [intOf]; omega
    · have hkm : k + 1 = m := by omega
      have hD := row_last (fsOf ss) k hkf (by rw [fsOf_len, HM.out]; exact hkm)
      rw [fsOf_at hks, ← HP.out] at hD
      have hnx := at_drop (X := field (sat ss k).data.toList) hD
      rw [HF.out, HL.out] at hnx
      obtain ⟨hx1, hx2⟩ := hnx
      have hlen := congrArg List.length hD
      rw [List.length_drop, HL.out, List.length_append, HF.out] at hlen
      simp only [List.length_cons, List.length_nil] at hlen
      have hpn : Hid (p + F + 1 = n) := by unfold Hid; omega
      have HX : Hid (bat (rowOf (fsOf ss)) (p + F) = 10) := hx1
      have HDD : Hid ((rowOf (fsOf ss)).drop p = field (sat ss k).data.toList ++ 10 :: []) := hD
      have HKM : Hid (k + 1 = m) := hkm
      clear hx1 hD hks hkf hlen hkm
      go_wp2_with fail
      refine (decode_any b off n cap p (rowOf (fsOf ss)) _ 10 (sat ss k) F wr HL.out (hr.grown tw.g1.grown (by simp)) hn hcap HF.out HDD.out (.inr rfl)).mono ?_
      rintro e w1 ⟨rfl, hg1⟩
      have tw1 := tw.kept hg1
      clear tw hg1
      go_wp2_with (at_builtin; refine wpList_append_two1 _ rfl (.tmp 32) (.tmp 34) rfl rfl (tw1.alloc _) ⟨w1.heap.size, 0, none⟩ 1 (sat ss k) rfl (cell_one_new _ _ _) (by rw [l1.out]; omega) ?_)
      intro v3 w3 tw3
      go_wp2_with (at_builtin; refine wpList_append_two2 _ rfl (.tmp 36) (.tmp 38) rfl rfl (tw3.alloc _) ⟨w3.heap.size, 0, none⟩ 1 (hasSpc (sat ss k).data.toList) rfl (cell_one_new _ _ _) (by rw [l2.out]; omega) ?_)
      intro v4 w4 tw4
      rw [strV_snoc HKS.out, boolV_snoc HKS.out] at tw4
      have c5 : w4.cell? ⟨b, off + (p + F), none⟩ = some (.int .u8 10) := by
        rw [(hr.grown tw4.g1.grown (by simp)).cell (p + F) (by omega), HX.out]; rfl
      rw [HKM.out, List.take_of_length_le (by rw [HM.out]; exact Nat.le_refl _)] at tw4
      obtain ⟨b1, d1, hv3⟩ := tw4.g1.shapeN (n := m) (by rw [strV_len, HM.out])
      obtain ⟨b2, d2, hv4⟩ := tw4.g2.shapeN (n := m) (by rw [boolV_len, HM.out])
      clear tw1 tw3
      go_wp2_with fail
      go_ret3
      have o1 := tw4.g1.own
      have o2 := tw4.g2.own
      rw [strV_len, HM.out, hv3] at o1
      rw [boolV_len, HM.out, hv4] at o2
      exact ⟨b1, d1, b2, d2, ret_row hv3 hv4 (by have := hpn.out; simp; omega), o1, o2, tw4.g1.grown⟩
end Go.Proofs.Qxb6000036aMods
