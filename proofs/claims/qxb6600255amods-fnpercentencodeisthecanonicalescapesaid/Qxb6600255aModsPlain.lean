/-
  THE PLAIN LAWS OF THE PERCENT ENCODING: lists of bytes, no Go in sight.
-/
namespace Go.Proofs.Qxb6600255aMods.Enc

/-- Printable ASCII other than the percent sign. -/
def plain (n : Nat) : Bool := decide (32 ≤ n ∧ n ≤ 126 ∧ n ≠ 37)
/-- The upper-case hex digit of a number below 16. -/
def hexd (n : Nat) : Nat := if n < 10 then 48 + n else 55 + n
def tok (c : UInt8) : List UInt8 := if plain c.toNat = true then [c] else [37, UInt8.ofNat (hexd (c.toNat / 16)), UInt8.ofNat (hexd (c.toNat % 16))]
def enc (l : List UInt8) : List UInt8 := (l.map tok).flatten
/-- How many bytes are escaped. -/
def cnt (l : List UInt8) : Nat := l.countP fun c => !plain c.toNat

theorem plain_yes {n : Nat} (h : 32 ≤ n ∧ n ≤ 126 ∧ n ≠ 37) : plain n = true := decide_eq_true h
theorem plain_no {n : Nat} (h : ¬ (32 ≤ n ∧ n ≤ 126 ∧ n ≠ 37)) : plain n = false := decide_eq_false h
theorem plain_of {n : Nat} (h : plain n = true) : 32 ≤ n ∧ n ≤ 126 ∧ n ≠ 37 := of_decide_eq_true h
theorem not_plain_of {n : Nat} (h : plain n = false) : ¬ (32 ≤ n ∧ n ≤ 126 ∧ n ≠ 37) := of_decide_eq_false h
theorem hexd_lt {n : Nat} (h : n < 16) : 48 ≤ hexd n ∧ hexd n < 71 := by unfold hexd; split <;> omega
theorem hexd_inj {n m : Nat} (h : n < 16) (h' : m < 16) (e : hexd n = hexd m) : n = m := by
  unfold hexd at e; split at e <;> split at e <;> omega
theorem hexd_nat {n : Nat} (h : n < 16) : (UInt8.ofNat (hexd n)).toNat = hexd n := by
  have := hexd_lt h
  simp; omega

theorem tok_plain {c : UInt8} (h : plain c.toNat = true) : tok c = [c] := by rw [tok, if_pos h]
theorem tok_esc {c : UInt8} (h : plain c.toNat = false) : tok c = [37, UInt8.ofNat (hexd (c.toNat / 16)), UInt8.ofNat (hexd (c.toNat % 16))] := by rw [tok, if_neg (by simp [h])]
theorem tok_len (c : UInt8) : 1 ≤ (tok c).length ∧ (tok c).length ≤ 3 := by unfold tok; split <;> simp
theorem enc_nil : enc [] = [] := rfl
theorem enc_cons (c : UInt8) (l : List UInt8) : enc (c :: l) = tok c ++ enc l := by simp [enc]
theorem enc_append (a b : List UInt8) : enc (a ++ b) = enc a ++ enc b := by simp [enc]
theorem enc_snoc (l : List UInt8) (c : UInt8) : enc (l ++ [c]) = enc l ++ tok c := by simp [enc]
theorem enc_len (l : List UInt8) : l.length ≤ (enc l).length ∧ (enc l).length ≤ 3 * l.length := by
  induction l with
  | nil => simp [enc]
  | cons c l ih =>
    have := tok_len c
    rw [enc_cons]; simp only [List.length_append, List.length_cons]; omega

theorem cnt_nil : cnt [] = 0 := rfl
theorem cnt_snoc (l : List UInt8) (c : UInt8) : cnt (l ++ [c]) = cnt l + if plain c.toNat = true then 0 else 1 := by
  unfold cnt
  rw [List.countP_append]
  cases h : plain c.toNat <;> simp [h]
theorem cnt_le (l : List UInt8) : cnt l ≤ l.length := List.countP_le_length
theorem cnt_zero {l : List UInt8} (h : cnt l = 0) : enc l = l := by
  induction l with
  | nil => rfl
  | cons c l ih =>
    unfold cnt at h
    rw [List.countP_cons] at h
    have h1 : cnt l = 0 := by unfold cnt; omega
    have h2 : plain c.toNat = true := by
      cases hp : plain c.toNat with
      | true => rfl
      | false => simp [hp] at h
    rw [enc_cons, tok_plain h2, ih h1]; rfl

theorem tok_inj {c d : UInt8} {x y : List UInt8} (h : tok c ++ x = tok d ++ y) : c = d ∧ x = y := by
  cases hc : plain c.toNat with
  | true =>
    cases hd : plain d.toNat with
    | true => rw [tok_plain hc, tok_plain hd] at h; simpa using h
    | false =>
      rw [tok_plain hc, tok_esc hd] at h
      simp at h
      have := plain_of hc
      rw [h.1] at this
      exact absurd rfl this.2.2
  | false =>
    cases hd : plain d.toNat with
    | true =>
      rw [tok_esc hc, tok_plain hd] at h
      simp at h
      have := plain_of hd
      rw [← h.1] at this
      exact absurd rfl this.2.2
    | false =>
      rw [tok_esc hc, tok_esc hd] at h
      simp only [List.cons_append, List.nil_append, List.cons.injEq, true_and] at h
      obtain ⟨h1, h2, h3⟩ := h
      have b1 := UInt8.toNat_lt c
      have b2 := UInt8.toNat_lt d
      have e1 := congrArg UInt8.toNat h1
      have e2 := congrArg UInt8.toNat h2
      rw [hexd_nat (by omega), hexd_nat (by omega)] at e1 e2
      have f1 := hexd_inj (by omega) (by omega) e1
      have f2 := hexd_inj (by omega) (by omega) e2
      exact ⟨UInt8.toNat_inj.1 (by omega), h3⟩

/-- Two messages with one encoding are one. -/
theorem enc_inj {l m : List UInt8} (h : enc l = enc m) : l = m := by
  induction l generalizing m with
  | nil =>
    cases m with
    | nil => rfl
    | cons d m =>
      have := (tok_len d).1
      have e := congrArg List.length h
      rw [enc_cons, List.length_append] at e
      simp only [enc, List.map_nil, List.flatten_nil, List.length_nil] at e
      omega
  | cons c l ih =>
    cases m with
    | nil =>
      have := (tok_len c).1
      have e := congrArg List.length h
      rw [enc_cons, List.length_append] at e
      simp only [enc, List.map_nil, List.flatten_nil, List.length_nil] at e
      omega
    | cons d m =>
      rw [enc_cons, enc_cons] at h
      obtain ⟨rfl, h2⟩ := tok_inj h
      rw [ih h2]

end Go.Proofs.Qxb6600255aMods.Enc
