/-
  WHAT THE FOUR LAWS' PROOFS SHARE: an argument of bytes as it is read; the bounds on total length (8, 14).
-/
import Derived.Test.Qxb6000036aModsRows
import Derived.Test.Qxb6000036aModsRead
import Derived.WalkKit
import Derived.ProofKit
import Derived.OpenShut
import Derived.ShutString
import Derived.ChangeOld
import Derived.Below
namespace Go.Proofs.Qxb6000036aMods
open Go.ChangeShapes Go.WideShapes Go.ChangeAt Go.RowKit
open Csv

theorem own : ownKnob Trym.prog.godebug = none := by kernel_rfl
theorem laidOut : laidOutB Trym.prog = true := by kernel_rfl

/-- WHAT THE WALK IS TOLD OF A SLICE OF INTEGERS THAT CAME IN: it is nil; or it leads to a row of 'cap' cells, the numbers 'zs' (the first 'len' are its elements, the rest its spare room), each fitting its kind. -/
def IsRow (k : IntKind) (w : World) (a : Option Addr) (len cap : Nat) (zs : List Int) : Prop :=
  (a = none ∧ len = 0 ∧ cap = 0 ∧ zs = []) ∨
  ∃ x, a = some x ∧ len ≤ cap ∧ cap ≤ maxLen ∧ zs.length = cap ∧ (∀ i, i < zs.length → w.cell? (x.add i) = some (.int k (zs.getD i 0))) ∧ ∀ n ∈ zs, (Lit.int k n).wf = true

theorem isRow_rd {w : World} {a : Option Addr} {len cap : Nat} {zs : List Int} (h : IsRow .u8 w a len cap zs) :
    ∃ b off l, l.length = len ∧ RdB w a b off len l := by
  rcases h with ⟨rfl, rfl, rfl, rfl⟩ | ⟨x, rfl, hlc, hcm, hz, hc, hw⟩
  · exact ⟨0, 0, [], rfl, Rd.nil _ _ _ _ _⟩
  · rcases Nat.eq_zero_or_pos len with h0 | h0
    · subst h0
      exact ⟨0, 0, [], rfl, Rd.nil _ _ _ _ _⟩
    · obtain ⟨b, off, spot⟩ := x
      have hspot : spot = none := by simpa [Addr.add] using World.cell?_spot (hc 0 (by omega))
      subst hspot
      refine ⟨b, off, (zs.take len).map (fun z => UInt8.ofNat z.toNat), by simp; omega, fun _ => rfl, fun j hj => ?_⟩
      have := hc j (by omega)
      rw [Addr.add_lit] at this
      rw [this]
      have hzj : j < zs.length := by omega
      have hwf := hw zs[j] (List.getElem_mem hzj)
      have hb := bounds_u8 hwf
      have e : bat ((zs.take len).map (fun z => UInt8.ofNat z.toNat)) j = zs[j].toNat := by
        rw [bat_eq (by simp; omega)]
        simp; omega
      simp only [e, List.getD_eq_getElem?_getD, List.getElem?_eq_getElem hzj, Option.getD_some]
      congr 2; omega

/-- The bound on total length, of the law on field safety (14) and of the law on the exact field (8). -/
theorem zz14_yes (a : Option Addr) (n cap : Nat) (s : ByteArray) (w : World) (h : n + s.size ≤ 1048576) :
    Calls Trym.prog 14 #[.slice a n cap, .string s] w fun e w' => e = .returned (.bool true) ∧ w = w' := by
  go_enter Trym.func14, Trym.ntmps14
  go_wp2
  go_ret
  exact ⟨rfl, rfl⟩
theorem zz14_no (a : Option Addr) (n cap : Nat) (s : ByteArray) (w : World) (h : ¬ n + s.size ≤ 1048576) :
    Calls Trym.prog 14 #[.slice a n cap, .string s] w fun e w' => e = .returned (.bool false) ∧ w = w' := by
  by_cases h1 : 1048576 < n
  · go_enter Trym.func14, Trym.ntmps14
    go_wp2
    go_ret
    exact ⟨rfl, rfl⟩
  · by_cases h2 : 1048576 < s.size
    · go_enter Trym.func14, Trym.ntmps14
      go_wp2
      go_ret
      exact ⟨rfl, rfl⟩
    · go_enter Trym.func14, Trym.ntmps14
      go_wp2
      go_ret
      exact ⟨rfl, rfl⟩
theorem zz8_yes (a : Option Addr) (n cap : Nat) (s : ByteArray) (w : World) (h : n + s.size ≤ 1048576) :
    Calls Trym.prog 8 #[.slice a n cap, .string s] w fun e w' => e = .returned (.bool true) ∧ w = w' := by
  go_enter Trym.func8, Trym.ntmps8
  go_wp2
  go_ret
  exact ⟨rfl, rfl⟩
theorem zz8_no (a : Option Addr) (n cap : Nat) (s : ByteArray) (w : World) (h : ¬ n + s.size ≤ 1048576) :
    Calls Trym.prog 8 #[.slice a n cap, .string s] w fun e w' => e = .returned (.bool false) ∧ w = w' := by
  by_cases h1 : 1048576 < n
  · go_enter Trym.func8, Trym.ntmps8
    go_wp2
    go_ret
    exact ⟨rfl, rfl⟩
  · by_cases h2 : 1048576 < s.size
    · go_enter Trym.func8, Trym.ntmps8
      go_wp2
      go_ret
      exact ⟨rfl, rfl⟩
    · go_enter Trym.func8, Trym.ntmps8
      go_wp2
      go_ret
      exact ⟨rfl, rfl⟩

/-! ### The contracts, their values written out -/
theorem own_shape {w : World} {base : Nat} {e : TypeId} {v : Value} {n : Nat} {xs : List Value} (h : w.ownsRow base e 1 v n xs) : ∃ ao cap, v = .slice ao n cap ∧ n ≤ cap ∧ cap ≤ maxLen := by
  rcases h.2 with ⟨h1, h2⟩ | ⟨g, cap, cur, hv, _, _, hn, hc, _⟩
  · exact ⟨none, 0, by rw [h1, h2], by omega, by unfold maxLen; omega⟩
  · exact ⟨_, cap, hv, hn, hc⟩

theorem clone_sh (ao : Option Addr) (b off n cap : Nat) (l : List UInt8) (w : World) (hl : l.length = n) (hr : RdB w ao b off n l) (hm : n ≤ 281474976710656) :
    Calls Trym.prog 9 #[.slice ao n cap] w fun e w' => ∃ ao' cap', e = .returned (.slice ao' n cap') ∧ w'.ownsRow w.heap.size 5 1 (.slice ao' n cap') n (bys l) ∧ w.grownBy w' none :=
  (clone_any ao b off n cap l w hl hr hm).mono fun e w' ⟨v', he, ho, hg⟩ => by
    obtain ⟨ao', cap', rfl, _, _⟩ := own_shape ho
    exact ⟨ao', cap', he, ho, hg⟩

theorem zzField_sh {base : Nat} (w : World) (ao : Option Addr) (n cap : Nat) (l : List UInt8) (s : ByteArray) (F : Nat) (hF : (field s.data.toList).length = F) (hl : l.length = n) (ho : w.ownsRow base 5 1 (.slice ao n cap) n (bys l)) (hbig : base ≤ w.heap.size) (hb : n + 2 * s.size + 2 ≤ 140737488355328) :
    Calls Trym.prog 10 #[.slice ao n cap, .string s] w fun e w' => ∃ ao' cap', e = .returned (.slice ao' (n + F) cap') ∧ w'.ownsRow base 5 1 (.slice ao' (n + F) cap') (n + F) (bys (l ++ field s.data.toList)) ∧ w.grownBy w' (Value.slice ao n cap).ownBlock ∧ n + F ≤ cap' :=
  (zzField_own w _ _ s (Gr.start ho hbig) (by rw [bys_len]; omega)).mono fun e w' ⟨v', he, hg⟩ => by
    have h1 := hg.own
    have h2 : (bys l ++ bys (field s.data.toList)).length = n + F := by rw [List.length_append, bys_len, bys_len]; omega
    rw [h2] at h1
    obtain ⟨ao', cap', rfl, hc, _⟩ := own_shape h1
    exact ⟨ao', cap', he, by rw [bys_append]; exact h1, hg.grown, hc⟩

theorem zzField_nil (w : World) (s : ByteArray) (F : Nat) (hF : (field s.data.toList).length = F) (hb : 2 * s.size + 2 ≤ 140737488355328) :
    Calls Trym.prog 10 #[.slice none 0 0, .string s] w fun e w' => ∃ ao' cap', e = .returned (.slice ao' F cap') ∧ w'.ownsRow w.heap.size 5 1 (.slice ao' F cap') F (bys (field s.data.toList)) ∧ w.grownBy w' none :=
  (zzField_sh w none 0 0 [] s F hF rfl (World.ownsRow_nil _ _ _ _) (Nat.le_refl _) (by omega)).mono fun e w' ⟨ao', cap', he, ho, hg, _⟩ => by
    rw [Nat.zero_add] at he ho
    exact ⟨ao', cap', he, ho, hg⟩

/-- An owned row of bytes, read. -/
theorem own_rdB {w : World} {base : Nat} {ao : Option Addr} {n cap : Nat} {l : List UInt8} (hl : l.length = n) (h : w.ownsRow base 5 1 (.slice ao n cap) n (bys l)) : ∃ g, RdB w ao g 0 n l :=
  let ⟨g, hr, _⟩ := own_rd h (fun j => .int .u8 (bat l j)) (fun j hj => bys_at (by omega))
  ⟨g, hr⟩

/-- Two owned rows, the second newer than the first: what is written to the first leaves the second as it is. -/
theorem kept_newer {w1 w2 w3 : World} {B : Nat} {v1 v2 : Value} {n1 n2 : Nat} {x1 x2 : List Value} {e1 e2 : TypeId} (h1 : w1.ownsRow B e1 1 v1 n1 x1) (h2 : w2.ownsRow w1.heap.size e2 1 v2 n2 x2) (hg : w2.grownBy w3 v1.ownBlock) : w3.ownsRow w1.heap.size e2 1 v2 n2 x2 := by
  refine h2.kept hg ?_
  cases hv : v2.ownBlock with
  | none => exact .inl rfl
  | some k =>
    refine .inr fun e => ?_
    have a1 := (h1.lt k e.symm).2
    have a2 := (h2.lt k hv).1
    omega
theorem kept_none {w w' : World} {B : Nat} {v : Value} {n : Nat} {xs : List Value} {e : TypeId} (h : w.ownsRow B e 1 v n xs) (hg : w.grownBy w' none) : w'.ownsRow B e 1 v n xs :=
  h.kept hg (by cases hv : v.ownBlock <;> simp)

theorem below_none {W w w' : World} {B : Nat} (h : Below B W w) (hg : w.grownBy w' none) (hB : B ≤ w.heap.size) : Below B W w' := h.grown hg hB (fun k hk => by cases hk)
theorem below_row {W w w' : World} {B : Nat} {e : TypeId} {v : Value} {n : Nat} {xs : List Value} (h : Below B W w) (ho : w.ownsRow B e 1 v n xs) (hg : w.grownBy w' v.ownBlock) (hB : B ≤ w.heap.size) : Below B W w' := h.grown hg hB (fun k hk => (ho.lt k hk).1)

theorem bat_left {l r : List UInt8} {j : Nat} (h : j < l.length) : bat (l ++ r) j = bat l j := by
  rw [bat_eq (by simp; omega), bat_eq h, List.getElem_append_left h]
theorem bat_right {l r : List UInt8} {n j : Nat} (hl : l.length = n) (h : j < r.length) : bat (l ++ r) (n + j) = bat r j := by
  subst hl
  rw [bat_eq (by simp; omega), bat_eq h, List.getElem_append_right (by omega)]
  simp
/-- The tail of what is read. -/
theorem Rd.tail {w : World} {ao : Option Addr} {b off n F : Nat} {l r : List UInt8} (hl : l.length = n) (hr : r.length = F) (h : RdB w ao b off (n + F) (l ++ r)) (ao' : Option Addr) (ha : 0 < F → ao' = some ⟨b, off + n, none⟩) : RdB w ao' b (off + n) F r :=
  ⟨ha, fun j hj => by
    have := h.cell (n + j) (by omega)
    rw [bat_right hl (by omega)] at this
    rw [Nat.add_assoc]; exact this⟩
end Go.Proofs.Qxb6000036aMods
