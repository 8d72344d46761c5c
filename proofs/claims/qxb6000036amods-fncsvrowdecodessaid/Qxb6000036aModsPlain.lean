/-
  THE PLAIN LAWS OF THE CSV FIELDS AND ROWS: lists of bytes, no Go in sight.
-/
namespace Go.Proofs.Qxb6000036aMods.Csv

/-- A comma, a quote, a carriage return or a line feed. -/
def spc (c : UInt8) : Bool := c == 44 || c == 34 || c == 13 || c == 10
def hasSpc (l : List UInt8) : Bool := l.any spc
def dbl (c : UInt8) : List UInt8 := if c = 34 then [34, 34] else [c]
def body (l : List UInt8) : List UInt8 := (l.map dbl).flatten
def field (l : List UInt8) : List UInt8 := if hasSpc l = true then 34 :: (body l ++ [34]) else l

theorem dbl_len (c : UInt8) : 1 ≤ (dbl c).length ∧ (dbl c).length ≤ 2 := by
  unfold dbl; split <;> simp
theorem body_nil : body [] = [] := rfl
theorem body_snoc (l : List UInt8) (c : UInt8) : body (l ++ [c]) = body l ++ dbl c := by simp [body]
theorem body_cons (c : UInt8) (l : List UInt8) : body (c :: l) = dbl c ++ body l := by simp [body]
theorem body_len (l : List UInt8) : l.length ≤ (body l).length ∧ (body l).length ≤ 2 * l.length := by
  induction l with
  | nil => simp [body]
  | cons c l ih =>
    rw [body_cons]
    have := dbl_len c
    simp only [List.length_append, List.length_cons]
    omega
theorem field_len (l : List UInt8) : l.length ≤ (field l).length ∧ (field l).length ≤ 2 * l.length + 2 := by
  have := body_len l
  unfold field
  split
  · simp only [List.length_append, List.length_cons, List.length_nil]; omega
  · omega
theorem field_pos (l : List UInt8) (h : hasSpc l = true) : field l = 34 :: (body l ++ [34]) := by rw [field, if_pos h]
theorem field_neg (l : List UInt8) (h : hasSpc l = false) : field l = l := by rw [field, if_neg (by simp [h])]

theorem hasSpc_snoc (l : List UInt8) (c : UInt8) : hasSpc (l ++ [c]) = (hasSpc l || spc c) := by simp [hasSpc]
theorem hasSpc_nil : hasSpc [] = false := rfl
theorem hasSpc_mem {l : List UInt8} (h : hasSpc l = false) {k : Nat} (hk : k < l.length) : spc l[k] = false := by
  have := List.any_eq_false.1 h l[k] (List.getElem_mem hk)
  simpa using this
theorem hasSpc_take {l : List UInt8} {k : Nat} (hk : k < l.length) (h : spc l[k] = true) : hasSpc l = true :=
  List.any_eq_true.2 ⟨_, List.getElem_mem hk, h⟩

/-! ### The scan for quotes -/
def scan : Bool → List UInt8 → Option Bool
  | q, [] => some q
  | q, c :: r => if c = 34 then scan (!q) r else if (!q && spc c) = true then none else scan q r

theorem scan_body (l r : List UInt8) : scan true (body l ++ r) = scan true r := by
  induction l with
  | nil => rfl
  | cons c l ih =>
    rw [body_cons, dbl]
    split
    · simp [scan, ih]
    · rename_i h
      simp [scan, h, ih]
theorem scan_plain (l : List UInt8) (h : hasSpc l = false) : scan false l = some false := by
  induction l with
  | nil => rfl
  | cons c l ih =>
    have hc : spc c = false ∧ hasSpc l = false := by simpa [hasSpc] using h
    have h34 : ¬ c = 34 := by intro e; subst e; exact absurd hc.1 (by decide)
    simp [scan, h34, hc.1, ih hc.2]
theorem scan_field (l : List UInt8) : scan false (field l) = some false := by
  cases h : hasSpc l with
  | false => rw [field_neg l h]; exact scan_plain l h
  | true =>
    rw [field_pos l h]
    simp [scan, scan_body]

theorem drop_cons {l : List UInt8} {k : Nat} (h : k < l.length) : l.drop k = l[k] :: l.drop (k + 1) := List.drop_eq_getElem_cons h

theorem scan_quote {l : List UInt8} {k : Nat} {q : Bool} (h : k < l.length) (hs : scan q (l.drop k) = some false) (hc : l[k] = 34) : scan (!q) (l.drop (k + 1)) = some false := by
  rw [drop_cons h] at hs
  simpa [scan, hc] using hs
theorem scan_other {l : List UInt8} {k : Nat} {q : Bool} (h : k < l.length) (hs : scan q (l.drop k) = some false) (hc : ¬ l[k] = 34) : scan q (l.drop (k + 1)) = some false ∧ (q = false → spc l[k] = false) := by
  rw [drop_cons h] at hs
  simp only [scan, hc, if_false] at hs
  cases q with
  | true => exact ⟨by simpa using hs, by simp⟩
  | false =>
    cases hsp : spc l[k] with
    | true => simp [hsp] at hs
    | false => exact ⟨by simpa [hsp] using hs, by simp⟩
theorem scan_end {q : Bool} (hs : scan q [] = some false) : q = false := by simpa [scan] using hs

/-! ### A byte's number, as the walk writes it -/
theorem u8_eq {c : UInt8} {n : Nat} (hn : n < 256) : c = UInt8.ofNat n ↔ c.toNat = n := by
  constructor
  · rintro rfl; simp; omega
  · intro h; apply UInt8.toNat_inj.1; rw [h]; simp; omega
theorem spc_iff (c : UInt8) : spc c = true ↔ c.toNat = 44 ∨ c.toNat = 34 ∨ c.toNat = 13 ∨ c.toNat = 10 := by
  have h1 := u8_eq (c := c) (n := 44) (by decide)
  have h2 := u8_eq (c := c) (n := 34) (by decide)
  have h3 := u8_eq (c := c) (n := 13) (by decide)
  have h4 := u8_eq (c := c) (n := 10) (by decide)
  simp only [spc, Bool.or_eq_true, beq_iff_eq]
  rw [← h1, ← h2, ← h3, ← h4]
  constructor
  · rintro (((h | h) | h) | h) <;> simp [h]
  · rintro (h | h | h | h) <;> simp [h]
theorem spc_false (c : UInt8) : spc c = false ↔ c.toNat ≠ 44 ∧ c.toNat ≠ 34 ∧ c.toNat ≠ 13 ∧ c.toNat ≠ 10 := by
  have := spc_iff c
  cases h : spc c with
  | true => simp [h] at this; simp; omega
  | false => simp [h] at this; simp; omega
theorem dbl_quote {c : UInt8} (h : c.toNat = 34) : dbl c = [34, 34] := by
  have : c = 34 := (u8_eq (c := c) (n := 34) (by decide)).2 h
  simp [dbl, this]
theorem dbl_other {c : UInt8} (h : ¬ c.toNat = 34) : dbl c = [c] := by
  have : ¬ c = 34 := fun e => h ((u8_eq (c := c) (n := 34) (by decide)).1 e)
  simp [dbl, this]

end Go.Proofs.Qxb6000036aMods.Csv
