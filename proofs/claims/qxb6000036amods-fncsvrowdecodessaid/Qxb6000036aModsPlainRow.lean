/-
  THE PLAIN LAWS OF A ROW: fields joined by commas, a line feed behind them.
-/
import Derived.Test.Qxb6000036aModsPlain
namespace Go.Proofs.Qxb6000036aMods.Csv

def joins : List (List UInt8) → List UInt8
  | [] => []
  | f :: r => field f ++ (r.map fun g => 44 :: field g).flatten
def rowOf (fs : List (List UInt8)) : List UInt8 := joins fs ++ [10]
def tot (fs : List (List UInt8)) : Nat := (fs.map List.length).sum

theorem joins_nil : joins [] = [] := rfl
theorem joins_one (f : List UInt8) : joins [f] = field f := by simp [joins]
theorem joins_append (a b : List (List UInt8)) (ha : a ≠ []) (hb : b ≠ []) : joins (a ++ b) = joins a ++ 44 :: joins b := by
  cases a with
  | nil => exact absurd rfl ha
  | cons f r =>
    cases b with
    | nil => exact absurd rfl hb
    | cons g q => simp [joins]
theorem joins_snoc (a : List (List UInt8)) (f : List UInt8) (ha : a ≠ []) : joins (a ++ [f]) = joins a ++ 44 :: field f := by
  rw [joins_append a [f] ha (by simp), joins_one]
theorem rowOf_append (a b : List (List UInt8)) (ha : a ≠ []) (hb : b ≠ []) : rowOf (a ++ b) = joins a ++ 44 :: rowOf b := by
  simp [rowOf, joins_append a b ha hb]
theorem sum_map_le (r : List (List UInt8)) : ((r.map fun g => 44 :: field g).flatten).length ≤ 2 * tot r + 3 * r.length := by
  induction r with
  | nil => simp [tot]
  | cons g r ih =>
    have := (field_len g).2
    simp only [List.map_cons, List.flatten_cons, List.length_append, List.length_cons, tot, List.sum_cons] at ih ⊢
    omega
theorem joins_len (fs : List (List UInt8)) : (joins fs).length ≤ 2 * tot fs + 3 * fs.length := by
  cases fs with
  | nil => simp [joins]
  | cons f r =>
    have h1 := (field_len f).2
    have h2 := sum_map_le r
    simp only [joins, List.length_append, List.length_cons, tot, List.map_cons, List.sum_cons] at h2 ⊢
    omega
theorem rowOf_len (fs : List (List UInt8)) : 1 ≤ (rowOf fs).length ∧ (rowOf fs).length ≤ 2 * tot fs + 3 * fs.length + 1 := by
  have := joins_len fs
  simp only [rowOf, List.length_append, List.length_cons, List.length_nil]
  omega
theorem tot_append (a b : List (List UInt8)) : tot (a ++ b) = tot a + tot b := by simp [tot]
theorem tot_take (fs : List (List UInt8)) (k : Nat) : tot (fs.take k) ≤ tot fs := by
  have : tot fs = tot (fs.take k) + tot (fs.drop k) := by rw [← tot_append, List.take_append_drop]
  omega
theorem tot_take_succ (fs : List (List UInt8)) (k : Nat) (h : k < fs.length) : tot (fs.take (k + 1)) = tot (fs.take k) + fs[k].length := by
  rw [List.take_succ_eq_append_getElem h, tot_append]
  simp [tot]
theorem tot_all (fs : List (List UInt8)) (k : Nat) (h : fs.length ≤ k) : tot (fs.take k) = tot fs := by rw [List.take_of_length_le h]
theorem tot_mem (fs : List (List UInt8)) (k : Nat) (h : k < fs.length) : fs[k].length ≤ tot fs := by
  have h1 := tot_take_succ fs k h
  have h2 := tot_take fs (k + 1)
  omega

end Go.Proofs.Qxb6000036aMods.Csv
