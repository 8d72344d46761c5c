/-
  MEMORY: a slice that the call itself appends to ('Gr'), a slice that is read ('Rd'): laws of no program of its own.
-/
import Derived.WalkKit
import Derived.WalkSmall
import Derived.Maps.AppendAt
import Derived.Deep.RegionLaw
namespace Go.Proofs.Qxb6600255aMods
open Go.RowKit

/-- Bytes as cells. -/
def bys (l : List UInt8) : List Value := l.map fun b => Value.int .u8 b.toNat
theorem bys_len (l : List UInt8) : (bys l).length = l.length := by simp [bys]
theorem bys_append (l r : List UInt8) : bys (l ++ r) = bys l ++ bys r := by simp [bys]
theorem bys_one (l : List UInt8) : ∀ u ∈ bys l, u.oneCell' = true := by
  intro u hu
  simp only [bys, List.mem_map] at hu
  obtain ⟨b, _, rfl⟩ := hu
  rfl

/-- The byte at a place, as a number; nought behind the end. A NAME OF ITS OWN: the walk leaves it standing. -/
def bat (l : List UInt8) (j : Nat) : Nat := (l.getD j 0).toNat
theorem bat_lt (l : List UInt8) (j : Nat) : bat l j < 256 := by
  unfold bat; exact UInt8.toNat_lt _
theorem bat_eq {l : List UInt8} {j : Nat} (h : j < l.length) : bat l j = l[j].toNat := by simp [bat, h]
theorem bys_at {l : List UInt8} {j : Nat} (h : j < l.length) : (bys l)[j]? = some (.int .u8 (bat l j)) := by
  simp [bys, h, bat_eq h]
theorem bat_str {s : ByteArray} {j : Nat} (h : j < s.size) : (s[j]'h).toNat = bat s.data.toList j := by
  have h' : j < s.data.toList.length := by simpa using h
  rw [bat_eq h']
  rfl

/-- THE CALL's OWN SLICE, APPENDED TO: it owns the cells xs; since W nothing has turned but the row that it began with and what is new. -/
structure Gr (W : World) (row : Option Nat) (base : Nat) (e : TypeId) (w : World) (v : Value) (xs : List Value) : Prop where
  own : w.ownsRow base e 1 v xs.length xs
  grown : W.grownBy w row
  lies : ∀ k, v.ownBlock = some k → row = some k ∨ W.heap.size ≤ k
  big : base ≤ w.heap.size

section
variable {W : World} {row : Option Nat} {base : Nat} {e : TypeId} {w : World} {v : Value} {xs : List Value}

theorem Gr.start {n : Nat} (h : w.ownsRow base e 1 v n xs) (hb : base ≤ w.heap.size) : Gr w v.ownBlock base e w v xs := by
  have hn : xs.length = n := by simpa using h.1
  exact ⟨by rw [hn]; exact h, World.grownBy.refl _ _, fun k hk => .inl hk, hb⟩

theorem Gr.none (w : World) (base : Nat) (e : TypeId) (hb : base ≤ w.heap.size) : Gr w none base e w (.slice none 0 0) [] :=
  ⟨World.ownsRow_nil _ _ _ _, World.grownBy.refl _ _, fun k hk => by simp [Value.ownBlock] at hk, hb⟩

/-- What leaves all blocks but the slice's own row as they are, or turns blocks that are none of hers. -/
theorem Gr.kept {w' : World} {r : Option Nat} (h : Gr W row base e w v xs) (hg : w.grownBy w' r) (hr : ∀ k, r = some k → W.heap.size ≤ k) (hv : v.ownBlock = .none ∨ v.ownBlock ≠ r) : Gr W row base e w' v xs :=
  ⟨h.own.kept hg hv, ⟨hg.os.trans h.grown.os, hg.tape.trans h.grown.tape, hg.output.trans h.grown.output, Nat.le_trans h.grown.size hg.size,
    fun k hk hne => (hg.block k (Nat.lt_of_lt_of_le hk h.grown.size) (fun e => by have := hr k e.symm; omega)).trans (h.grown.block k hk hne)⟩, h.lies, Nat.le_trans h.big hg.size⟩

theorem Gr.alloc (h : Gr W row base e w v xs) (o : Obj) : Gr W row base e (w.alloc o) v xs :=
  h.kept (World.grownBy_alloc w o .none) (fun k hk => by cases hk) (by cases hv : v.ownBlock <;> simp)

theorem Gr.drewN (h : Gr W row base e w v xs) (q : Nat) : Gr W row base e (w.drewN q) v xs :=
  ⟨h.own, ⟨h.grown.os, h.grown.tape, h.grown.output, h.grown.size, h.grown.block⟩, h.lies, h.big⟩

theorem Gr.step {w' : World} {v' : Value} {n' : Nat} {news : List Value} (h : Gr W row base e w v xs) (hown : w'.ownsRow base e 1 v' n' (xs ++ news)) (hg : w.grownBy w' v.ownBlock) (hat : v'.ownBlock = v.ownBlock ∨ v'.ownBlock = some w.heap.size) :
    Gr W row base e w' v' (xs ++ news) := by
  have hn : (xs ++ news).length = n' := by simpa using hown.1
  refine ⟨by rw [hn]; exact hown, ⟨hg.os.trans h.grown.os, hg.tape.trans h.grown.tape, hg.output.trans h.grown.output, Nat.le_trans h.grown.size hg.size, fun k hk hne => ?_⟩, fun k hk => ?_, Nat.le_trans h.big hg.size⟩
  · refine (hg.block k (Nat.lt_of_lt_of_le hk h.grown.size) (fun e => ?_)).trans (h.grown.block k hk hne)
    rcases h.lies k e.symm with h1 | h1
    · exact hne h1.symm
    · omega
  · rcases hat with h1 | h1
    · exact h.lies k (h1 ▸ hk)
    · rw [h1] at hk
      have : w.heap.size = k := by simpa using hk
      have := h.grown.size
      omega

/-- The slice's shape: nil, or at the head of a block. -/
theorem Gr.shape (h : Gr W row base e w v xs) : ∃ ao cap, v = .slice ao xs.length cap ∧ xs.length ≤ cap ∧ cap ≤ maxLen := by
  rcases h.own.2 with ⟨h1, h2⟩ | ⟨g, cap, cur, hv, _, _, hn, hc, _⟩
  · exact ⟨.none, 0, by rw [h1, h2], by omega, by unfold maxLen; omega⟩
  · exact ⟨_, cap, hv, hn, hc⟩
end

/-! ### The law at an append -/
section
variable {P : Program} (w : World)

theorem wpList_append_gr {ops : Array Oper} {rest : List Oper} {o : Oper} {a : Act} {Q : Exit → Act → World → Prop} (hgd : o.guard = none) (s x : Operand) (t : TypeId)
    (ho : o.op = .call { callee := .builtin .append, args := #[s, x], argTypes := #[t, t] })
    {W : World} {row : Option Nat} {base : Nat} {e : TypeId} (i : TypeInfo) (z : Value) (bytes : Nat) (ht : P.underlying t = some (.slice e)) (hi : P.info? e = some i) (hz : i.zero = some z)
    (hsize : i.size = 1) (hby : i.bytes = bytes) (hzs : z.cells.size = 1)
    {v : Value} {xs : List Value} (hs : a.eval s = v) (h : Gr W row base e w v xs)
    (ad : Addr) (m c : Nat) (news : List Value) (hx : a.eval x = .slice (some ad) m c) (hl : news.length = m) (hnews : ∀ j u, news[j]? = some u → w.cell? (ad.add j) = some u) (h1 : ∀ u ∈ news, u.oneCell' = true)
    (hbytes : (xs.length + m) * bytes ≤ 140737488355328) (h63 : xs.length + m ≤ maxLen)
    (hK : ∀ v' w', Gr W row base e w' v' (xs ++ news) → wpList P ops Q rest (a.put o.dst v') w') :
    wpList P ops Q (o :: rest) a w :=
  wpList_append_own_at (P := P) w hgd s x t ho base e i z 1 bytes ht hi hz hsize hby hzs (by decide) v xs.length xs hs h.own ad m c news hx (by simpa using hl) hnews h1 h63 hbytes h.big
    fun v' w' hown hg _ hat => hK v' w' (h.step hown hg hat)

/-- .. AS A STEP OF A REGION THAT DRAWS ITS ORDER. -/
theorem step_append_gr {ops : Array Oper} {o : Oper} {a : Act} {K : Act → World → Prop} {Q : Exit → Act → World → Prop} {E : Prop} (hgd : o.guard = none) (s x : Operand) (t : TypeId)
    (ho : o.op = .call { callee := .builtin .append, args := #[s, x], argTypes := #[t, t] })
    {W : World} {row : Option Nat} {base : Nat} {e : TypeId} (i : TypeInfo) (z : Value) (bytes : Nat) (ht : P.underlying t = some (.slice e)) (hi : P.info? e = some i) (hz : i.zero = some z)
    (hsize : i.size = 1) (hby : i.bytes = bytes) (hzs : z.cells.size = 1)
    (v : Value) (xs : List Value) (hs : a.eval s = v) (h : Gr W row base e w v xs)
    (ad : Addr) (m c : Nat) (news : List Value) (hx : a.eval x = .slice (some ad) m c) (hl : news.length = m) (hnews : ∀ j u, news[j]? = some u → w.cell? (ad.add j) = some u) (h1 : ∀ u ∈ news, u.oneCell' = true)
    (hbytes : (xs.length + m) * bytes ≤ 140737488355328) (h63 : xs.length + m ≤ maxLen)
    (hK : ∀ v' w', Gr W row base e w' v' (xs ++ news) → K (a.put o.dst v') w') :
    if Region.wanted o (yielded ops a.tmps) = true then Oper.wp P o a w K Q else E := by
  have hw : Region.wanted o (yielded ops a.tmps) = true := by simp [Region.wanted, hgd]
  rw [if_pos hw]
  obtain ⟨v', w', hr, h2, h3, _, h5⟩ := run_append_own_at (P := P) w base t o.type e i z 1 bytes ht hi hz hsize hby hzs (by decide) v xs.length xs h.own ad m c news (by simpa using hl) hnews h1 h63 hbytes h.big
  unfold Oper.wp execOp
  simp only [ho, resolve, invoke, builtin, Sem.run_bind, Sem.run_pure, Result.andThen_ok, List.map_toArray, List.map_cons, List.map_nil, hs, hx, hr]
  exact hK v' w' (h.step h2 h3 h5)
end

end Go.Proofs.Qxb6600255aMods
