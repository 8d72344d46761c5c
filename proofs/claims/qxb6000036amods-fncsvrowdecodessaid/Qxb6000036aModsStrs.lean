/-
  SLICES OF STRINGS: an argument as it is read; a copy of one; the laws that the walks over rows share.
-/
import Derived.Test.Qxb6000036aModsCommon
import Derived.Test.Qxb6000036aModsRow
import Derived.SliceStrings
import Derived.Laws.CopyOwn
namespace Go.Proofs.Qxb6000036aMods
open Go.ChangeShapes Go.WideShapes Go.ChangeAt Go.RowKit
open Csv

theorem Trym.info9 : (Trym.prog.info? 9).map (fun i => (i.zero, i.size, i.bytes)) = some (some (.string ByteArray.empty), 1, 16) := by kernel_rfl
theorem Trym.info4 : (Trym.prog.info? 4).map (fun i => (i.zero, i.size, i.bytes)) = some (some (.bool false), 1, 1) := by kernel_rfl
theorem Trym.size9 : (Trym.prog.info? 9).map (·.size) = some 1 := by kernel_rfl

/-- Strings as cells. -/
def strV (ss : List ByteArray) : List Value := ss.map Value.string
theorem strV_len (ss : List ByteArray) : (strV ss).length = ss.length := by simp [strV]
theorem strV_one (ss : List ByteArray) : ∀ u ∈ strV ss, u.oneCell' = true := by
  intro u hu
  simp only [strV, List.mem_map] at hu
  obtain ⟨b, _, rfl⟩ := hu
  rfl
theorem strV_at {ss : List ByteArray} {j : Nat} (h : j < ss.length) : (strV ss)[j]? = some (.string (sat ss j)) := by simp [strV, h, sat_eq h]
theorem strV_append (a b : List ByteArray) : strV (a ++ b) = strV a ++ strV b := by simp [strV]
theorem strV_snoc {ss : List ByteArray} {k : Nat} (h : k < ss.length) : strV (ss.take k) ++ [.string (sat ss k)] = strV (ss.take (k + 1)) := by
  rw [List.take_succ_eq_append_getElem h, sat_eq h, strV_append]; rfl
theorem one_str (s : ByteArray) : ∀ u ∈ [Value.string s], u.oneCell' = true := by
  intro u hu; simp at hu; subst hu; rfl

theorem Gr.shapeN {W : World} {row : Option Nat} {base : Nat} {e : TypeId} {w : World} {v : Value} {xs : List Value} (h : Gr W row base e w v xs) {n : Nat} (hn : xs.length = n) : ∃ ao cap, v = .slice ao n cap := by
  obtain ⟨ao, cap, hv, _, _⟩ := h.shape
  exact ⟨ao, cap, by rw [hv, hn]⟩

/-- An argument of type []string. -/
def IsStrs (w : World) (a : Option Addr) (len cap : Nat) (ss : List ByteArray) : Prop :=
  (a = none ∧ len = 0 ∧ cap = 0 ∧ ss = []) ∨
  ∃ x, a = some x ∧ len ≤ cap ∧ cap ≤ maxLen ∧ ss.length = cap ∧ (∀ i, i < ss.length → w.cell? (x.add i) = some (.string (ss.getD i ByteArray.empty))) ∧ ∀ s ∈ ss, s.size ≤ maxLen

theorem isStrs_rd {w : World} {a : Option Addr} {len cap : Nat} {zs : List ByteArray} (h : IsStrs w a len cap zs) :
    ∃ b off ss, ss.length = len ∧ RdS w a b off len ss ∧ (∀ j, (sat ss j).size ≤ 9223372036854775807) ∧ len ≤ 9223372036854775807 := by
  have he : (ByteArray.empty).size ≤ 9223372036854775807 := by decide
  rcases h with ⟨rfl, rfl, rfl, rfl⟩ | ⟨x, rfl, hlc, hcm, hz, hc, hw⟩
  · exact ⟨0, 0, [], rfl, Rd.nil _ _ _ _ _, fun j => by simp [sat], by omega⟩
  · unfold maxLen at hcm
    rcases Nat.eq_zero_or_pos len with h0 | h0
    · subst h0
      exact ⟨0, 0, [], rfl, Rd.nil _ _ _ _ _, fun j => by simp [sat], by omega⟩
    · obtain ⟨b, off, spot⟩ := x
      have hspot : spot = none := by simpa [Addr.add] using World.cell?_spot (hc 0 (by omega))
      subst hspot
      have hlen : (zs.take len).length = len := by simp; omega
      refine ⟨b, off, zs.take len, hlen, ⟨fun _ => rfl, fun j hj => ?_⟩, fun j => ?_, by omega⟩
      · have := hc j (by omega)
        rw [Addr.add_lit] at this
        rw [this, sat_eq (by omega)]
        simp [List.getElem?_eq_getElem (show j < zs.length by omega)]
      · by_cases hj : j < (zs.take len).length
        · rw [sat_eq hj]
          have := hw _ (List.mem_of_mem_take (List.getElem_mem hj))
          unfold maxLen at this
          exact this
        · have : sat (zs.take len) j = ByteArray.empty := by
            unfold sat
            rw [List.getD_eq_getElem?_getD, List.getElem?_eq_none (by omega)]
            rfl
          rw [this]; exact he

/-- An owned row of strings, read. -/
theorem own_rdS {w : World} {base : Nat} {ao : Option Addr} {n cap : Nat} {ss : List ByteArray} (hl : ss.length = n) (h : w.ownsRow base 9 1 (.slice ao n cap) n (strV ss)) : ∃ g, RdS w ao g 0 n ss ∧ (0 < n → base ≤ g) :=
  let ⟨g, hr, hg⟩ := own_rd h (fun j => .string (sat ss j)) (fun j hj => strV_at (by omega))
  ⟨g, hr, fun hn => (hg hn).1⟩

section
variable {P : Program} (w : World)
/-- 'copy(dst, src)', dst a row of the call's own, src as long as dst. -/
theorem wpList_copy_whole {ops : Array Oper} {rest : List Oper} {o : Oper} {a : Act} {Q : Exit → Act → World → Prop} (hgd : o.guard = none) (d s : Operand) (dT sT : TypeId)
    (ho : o.op = .call { callee := .builtin .copy, args := #[d, s], argTypes := #[dT, sT] }) (e : TypeId) (hu : P.underlying dT = some (.slice e)) (hsz : (P.info? e).map (·.size) = some 1)
    (base g n cap : Nat) (xs : List Value) (hd : a.eval d = .slice (some ⟨g, 0, none⟩) n cap) (hown : w.ownsRow base e 1 (.slice (some ⟨g, 0, none⟩) n cap) n xs)
    (ad : Addr) (sCap : Nat) (hs : a.eval s = .slice (some ad) n sCap) (cs : List Value) (hn : cs.length = n) (hsrc : ∀ j v, cs[j]? = some v → w.cell? (ad.add j) = some v) (h1 : ∀ v ∈ cs, v.oneCell' = true)
    (hK : ∀ w', w'.ownsRow base e 1 (.slice (some ⟨g, 0, none⟩) n cap) n cs → w.grownBy w' (some g) → wpList P ops Q rest (a.put o.dst (goInt cs.length)) w') : wpList P ops Q (o :: rest) a w := by
  rcases hown.2 with ⟨h', _⟩ | ⟨g', cap', cur, h', hb, hg, hnc, hcm, hcs, htake⟩
  · simp at h'
  · simp only [Value.slice.injEq, Option.some.injEq, Addr.mk.injEq, and_true, true_and] at h'
    obtain ⟨rfl, rfl⟩ := h'
    have hcs' : cur.size = cap := by simpa using hcs
    refine wpList_copy_own hgd d s dT sT ho e hu hsz g 0 n cap ad n sCap hd hs cur e hg cs (by rw [hn]; simp) hsrc (by omega) h1 ?_
    refine hK _ ⟨by omega, .inr ⟨g, cap, _, rfl, hb, setRow_heap w g cur _ e _ hg, hnc, hcm, ?_, ?_⟩⟩ ⟨rfl, rfl, rfl, by simp, fun k _ hk => setRow_other w g k _ (fun e => hk (by simp [e]))⟩
    · simp only [List.size_toArray, List.length_append, List.length_take, List.length_drop, Array.length_toList]
      omega
    · simp [hn]
end

theorem gr_below {W : World} {base : Nat} {e : TypeId} {w : World} {v : Value} {xs : List Value} (h : Gr W none base e w v xs) : Below W.heap.size W w :=
  ⟨h.grown.os, h.grown.tape, h.grown.output, h.grown.size, fun k hk => h.grown.block k hk (by simp)⟩
theorem below_of_grown {w w' : World} (h : w.grownBy w' none) : Below w.heap.size w w' := ⟨h.os, h.tape, h.output, h.size, fun k hk => h.block k hk (by simp)⟩

/-- A row that has just been made. -/
theorem gr_made {w w' : World} {e : TypeId} {n : Nat} (ho : w'.ownsRow w.heap.size e 1 (.slice (some ⟨w.heap.size, 0, none⟩) 0 n) 0 []) (hg : w.grownBy w' none) : Gr w none w.heap.size e w' (.slice (some ⟨w.heap.size, 0, none⟩) 0 n) [] :=
  ⟨ho, hg, fun k hk => .inr (by simp [Value.ownBlock] at hk; omega), hg.size⟩

/-- The cells of a slice of strings that is read, as a copy's law asks them. -/
theorem rd_src {w : World} {ao : Option Addr} {b off n : Nat} {ss : List ByteArray} (hl : ss.length = n) (h : RdS w ao b off n ss) : ∀ j v, (strV ss)[j]? = some v → w.cell? ((⟨b, off, none⟩ : Addr).add j) = some v := by
  intro j v hv
  have hj : j < ss.length := by
    have := (List.getElem?_eq_some_iff.1 hv).1
    rwa [strV_len] at this
  rw [strV_at hj] at hv
  rw [Addr.add_lit, h.cell j (by omega)]
  exact hv

/-- An owned row, its address written out, read. -/
theorem own_atS {w : World} {base g n cap : Nat} {ss : List ByteArray} (hl : ss.length = n) (h : w.ownsRow base 9 1 (.slice (some ⟨g, 0, none⟩) n cap) n (strV ss)) : RdS w (some ⟨g, 0, none⟩) g 0 n ss :=
  ⟨fun _ => rfl, fun j hj => by rw [Nat.zero_add, h.cellAt j (by omega), strV_at (by omega)]⟩

theorem bys_snoc (M r : List UInt8) (k : Nat) (h : k < r.length) : bys (M ++ r.take k) ++ [.int .u8 (bat r k)] = bys (M ++ r.take (k + 1)) := by
  rw [List.take_succ_eq_append_getElem h, ← List.append_assoc, bys_append (M ++ r.take k), bat_eq h]; rfl
theorem bys_pre_len (M r : List UInt8) (k : Nat) (h : k ≤ r.length) : (bys (M ++ r.take k)).length = M.length + k := by
  rw [bys_len, List.length_append, List.length_take]; omega

/-- csvRow's front, its values written out. -/
theorem zzRow_sh {base : Nat} (w : World) (ao : Option Addr) (n cap : Nat) (l : List UInt8) (hl : l.length = n) (ho : w.ownsRow base 5 1 (.slice ao n cap) n (bys l)) (hbig : base ≤ w.heap.size) (ao2 : Option Addr) (b off n2 cap2 : Nat) (ss : List ByteArray) (hn : ss.length = n2) (hr : RdS w ao2 b off n2 ss)
    (hrow : (Value.slice ao n cap).ownBlock ≠ some b) (R : Nat) (hR : (rowOf (fsOf ss)).length = R) (hb : n + 2 * tot (fsOf ss) + 3 * n2 + 2 ≤ 140737488355328) :
    Calls Trym.prog 19 #[.slice ao n cap, .slice ao2 n2 cap2] w fun e w' => ∃ ao' cap', e = .returned (.slice ao' (n + R) cap') ∧ w'.ownsRow base 5 1 (.slice ao' (n + R) cap') (n + R) (bys (l ++ rowOf (fsOf ss))) ∧ w.grownBy w' (Value.slice ao n cap).ownBlock ∧ n + R ≤ cap' :=
  (zzRow_own w _ _ (Gr.start ho hbig) ao2 b off n2 cap2 ss hn hr hrow (by rw [bys_len]; omega)).mono fun e w' ⟨v', he, hg⟩ => by
    have h1 := hg.own
    have h2 : (bys l ++ bys (rowOf (fsOf ss))).length = n + R := by rw [List.length_append, bys_len, bys_len]; omega
    rw [h2] at h1
    obtain ⟨ao', cap', rfl, hc, _⟩ := own_shape h1
    exact ⟨ao', cap', he, by rw [bys_append]; exact h1, hg.grown, hc⟩
theorem zzRow_nil (w : World) (ao2 : Option Addr) (b off n2 cap2 : Nat) (ss : List ByteArray) (hn : ss.length = n2) (hr : RdS w ao2 b off n2 ss) (R : Nat) (hR : (rowOf (fsOf ss)).length = R) (hb : 2 * tot (fsOf ss) + 3 * n2 + 2 ≤ 140737488355328) :
    Calls Trym.prog 19 #[.slice none 0 0, .slice ao2 n2 cap2] w fun e w' => ∃ ao' cap', e = .returned (.slice ao' R cap') ∧ w'.ownsRow w.heap.size 5 1 (.slice ao' R cap') R (bys (rowOf (fsOf ss))) ∧ w.grownBy w' none :=
  (zzRow_sh w none 0 0 [] rfl (World.ownsRow_nil _ _ _ _) (Nat.le_refl _) ao2 b off n2 cap2 ss hn hr (by simp [Value.ownBlock]) R hR (by omega)).mono fun e w' ⟨ao', cap', he, ho, hg, _⟩ => by
    rw [Nat.zero_add] at he ho
    exact ⟨ao', cap', he, ho, hg⟩

/-- The last byte of a row. -/
theorem bat_rowEnd {fs : List (List UInt8)} {r : Nat} (h : (rowOf fs).length = r) : bat (rowOf fs) (r - 1) = 10 := by
  subst h
  have h1 : (rowOf fs).length = (joins fs).length + 1 := by simp [rowOf]
  rw [bat_eq (by omega)]
  have : (rowOf fs)[(rowOf fs).length - 1]'(by omega) = (10 : UInt8) := by
    simp [rowOf]
  rw [this]; rfl
theorem take_rowEnd {fs : List (List UInt8)} {r : Nat} (h : (rowOf fs).length = r) : (rowOf fs).take (r - 1) = joins fs := by
  subst h
  simp [rowOf]

/-- An owned row of bytes, read, and where it lies. -/
theorem own_rdB' {w : World} {base : Nat} {ao : Option Addr} {n cap : Nat} {l : List UInt8} (hl : l.length = n) (h : w.ownsRow base 5 1 (.slice ao n cap) n (bys l)) : ∃ g, RdB w ao g 0 n l ∧ (0 < n → base ≤ g) :=
  let ⟨g, hr, hg⟩ := own_rd h (fun j => .int .u8 (bat l j)) (fun j hj => bys_at (by omega))
  ⟨g, hr, fun hn => (hg hn).1⟩
theorem rowOf_joined (s1 s2 : List ByteArray) (h1 : s1 ≠ []) (h2 : s2 ≠ []) : rowOf (fsOf (s1 ++ s2)) = joins (fsOf s1) ++ 44 :: rowOf (fsOf s2) := by
  rw [fsOf_append, rowOf_append]
  · intro e; exact h1 (List.map_eq_nil_iff.1 e)
  · intro e; exact h2 (List.map_eq_nil_iff.1 e)

end Go.Proofs.Qxb6000036aMods
