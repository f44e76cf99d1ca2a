/- Memory that several owners share out: what a call may change ('Chg'), rows of numbers, rows that grow. -/
import Derived.Test.Qxb6616078aRows
import Derived.WalkKit
import Derived.WalkSpells
import Derived.WalkLawsBesides
import Derived.Maps.AppendAt
namespace Go.Proofs.Qxb6616078a
open Go.RowKit

theorem stopHere {p : Prop} (h : Hid p) : p := h

/-- Blocks that lay already are as they were, but for those of F. -/
structure Chg (F : Nat → Prop) (w w' : World) : Prop where
  os : w'.os = w.os
  tape : w'.tape = w.tape
  output : w'.output = w.output
  size : w.heap.size ≤ w'.heap.size
  block : ∀ k, k < w.heap.size → ¬ F k → w'.heap[k]? = w.heap[k]?

theorem Chg.refl (F : Nat → Prop) (w : World) : Chg F w w := ⟨rfl, rfl, rfl, Nat.le_refl _, fun _ _ _ => rfl⟩
theorem Chg.trans {F G : Nat → Prop} {w w1 w2 : World} (h : Chg F w w1) (k : Chg G w1 w2) (hG : ∀ b, G b → F b ∨ w.heap.size ≤ b) : Chg F w w2 :=
  ⟨k.os.trans h.os, k.tape.trans h.tape, k.output.trans h.output, Nat.le_trans h.size k.size, fun b hb hf => (k.block b (Nat.lt_of_lt_of_le hb h.size) (fun hg => (hG b hg).elim hf (fun hh => absurd hb (Nat.not_lt.2 hh)))).trans (h.block b hb hf)⟩
theorem Chg.mono {F G : Nat → Prop} {w w1 : World} (h : Chg F w w1) (hG : ∀ b, F b → G b ∨ w.heap.size ≤ b) : Chg G w w1 :=
  ⟨h.os, h.tape, h.output, h.size, fun b hb hg => h.block b hb (fun hf => (hG b hf).elim hg (fun hh => absurd hb (Nat.not_lt.2 hh)))⟩
theorem Chg.grown {r : Option Nat} {w w1 : World} (h : w.grownBy w1 r) : Chg (fun k => some k = r) w w1 := ⟨h.os, h.tape, h.output, h.size, h.block⟩
theorem Chg.below {w w1 : World} (h : Below w.heap.size w w1) : Chg (fun _ => False) w w1 := ⟨h.os, h.tape, h.output, h.size, fun k hk _ => h.block k hk⟩
theorem Chg.to_below {F : Nat → Prop} {w w1 : World} (h : Chg F w w1) (hF : ∀ b, F b → w.heap.size ≤ b) : Below w.heap.size w w1 := ⟨h.os, h.tape, h.output, h.size, fun k hk => h.block k hk (fun hf => absurd hk (Nat.not_lt.2 (hF k hf)))⟩
theorem Chg.drew (F : Nat → Prop) (w : World) : Chg F w w.drew := ⟨rfl, rfl, rfl, Nat.le_refl _, fun _ _ _ => rfl⟩
theorem Chg.alloc (F : Nat → Prop) (w : World) (o : Obj) : Chg F w (w.alloc o) := ⟨rfl, rfl, rfl, by simp, fun k hk _ => heap_alloc_old w o hk⟩
theorem Chg.setCell (w : World) (a : Addr) (v : Value) : Chg (fun k => k = a.block) w (w.setCell a v) := ⟨rfl, rfl, rfl, by simp [World.setCell], fun k _ h => Below.heap_setCell _ _ _ _ (fun e => h e)⟩
theorem Chg.allocd (w : World) (o : Obj) : Chg (fun _ => False) w (w.alloc o).drew := (Chg.alloc (fun _ => False) w o).trans (Chg.drew (fun _ => False) _) (fun _ h => h.elim)
theorem cell_allocd (w : World) (u : Value) (e : TypeId) : (w.alloc (.cells #[u] e)).drew.cell? ⟨w.heap.size, 0, none⟩ = some u := by
  show (w.alloc (.cells #[u] e)).cell? _ = _
  simp
theorem cell_alloc1 (w : World) (u : Value) (e : TypeId) : (w.alloc (.cells #[u] e)).cell? ⟨w.heap.size, 0, none⟩ = some u := by
  simp
theorem Chg.cell {F : Nat → Prop} {w w1 : World} (h : Chg F w w1) {a : Addr} {v : Value} (hc : w.cell? a = some v) (hF : ¬ F a.block) : w1.cell? a = some v := by
  have hl : a.block < w.heap.size := by
    rcases Nat.lt_or_ge a.block w.heap.size with h' | h'
    · exact h'
    · simp [World.cell?, Array.getElem?_eq_none h'] at hc
  unfold World.cell? at hc ⊢
  rw [h.block _ hl hF]
  exact hc

/-- Block b holds those cells, none of them frozen. -/
def Blk (w : World) (b : Nat) (xs : List Value) (t : TypeId) : Prop := w.heap[b]? = some (.cells xs.toArray t (0, 0))

theorem Blk.lt {w : World} {b : Nat} {xs : List Value} {t : TypeId} (h : Blk w b xs t) : b < w.heap.size := lt_of_block h
theorem Blk.cell {w : World} {b : Nat} {xs : List Value} {t : TypeId} (h : Blk w b xs t) {i : Nat} {v : Value} (hv : xs[i]? = some v) : w.cell? ⟨b, i, none⟩ = some v := by
  unfold Blk at h
  simp [World.cell?, h, hv]
theorem Blk.free {w : World} {b : Nat} {xs : List Value} {t : TypeId} (h : Blk w b xs t) (i : Nat) : w.frozen? ⟨b, i, none⟩ = false := by
  unfold Blk at h
  simp [World.frozen?, h]
theorem Blk.set {w : World} {b : Nat} {xs : List Value} {t : TypeId} (h : Blk w b xs t) (i : Nat) (v : Value) : Blk (w.setCell ⟨b, i, none⟩ v) b (xs.set i v) t := by
  have hlt := h.lt
  unfold Blk at h ⊢
  have h' : w.heap[b] = .cells xs.toArray t (0, 0) := by simpa [Array.getElem?_eq_getElem hlt] using h
  show (w.heap.modify b _)[b]? = _
  rw [Array.getElem?_eq_getElem (by simpa using hlt), Array.getElem_modify_self, h']
  simp
theorem Blk.chg {F : Nat → Prop} {w w1 : World} {b : Nat} {xs : List Value} {t : TypeId} (h : Blk w b xs t) (hc : Chg F w w1) (hF : ¬ F b) : Blk w1 b xs t := by
  have hlt := h.lt
  unfold Blk at h ⊢
  rw [hc.block b hlt hF]
  exact h
theorem Blk.new (w : World) (xs : List Value) (t : TypeId) : Blk (w.alloc (.cells xs.toArray t)) w.heap.size xs t := heap_alloc_new w _
theorem Blk.ne {w : World} {b b' : Nat} {xs ys : List Value} {t t' : TypeId} (h : Blk w b xs t) (h' : Blk w b' ys t') (ht : t ≠ t') : b ≠ b' := by
  intro e
  subst e
  unfold Blk at h h'
  rw [h] at h'
  injection h' with h'
  injection h' with _ h'
  exact ht h'

/-- The cells of a function's first n numbers. -/
def numRow (n : Nat) (f : Nat → Nat) : List Value := (List.range n).map fun v => .int .i64 (f v)
def boolRow (n : Nat) (f : Nat → Bool) : List Value := (List.range n).map fun v => .bool (f v)
theorem numRow_length (n : Nat) (f : Nat → Nat) : (numRow n f).length = n := by simp [numRow]
theorem boolRow_length (n : Nat) (f : Nat → Bool) : (boolRow n f).length = n := by simp [boolRow]
theorem numRow_at {n : Nat} (f : Nat → Nat) {i : Nat} (h : i < n) : (numRow n f)[i]? = some (.int .i64 (f i)) := by simp [numRow, h]
theorem boolRow_at {n : Nat} (f : Nat → Bool) {i : Nat} (h : i < n) : (boolRow n f)[i]? = some (.bool (f i)) := by simp [boolRow, h]
def updB (f : Nat → Bool) (k : Nat) (x : Bool) : Nat → Bool := fun i => if i = k then x else f i
theorem numRow_set (n : Nat) (f : Nat → Nat) (k x : Nat) : (numRow n f).set k (.int .i64 x) = numRow n (fun i => if i = k then x else f i) := by
  apply List.ext_getElem?
  intro i
  unfold numRow
  rw [List.getElem?_set]
  by_cases hi : i < n
  · by_cases e : k = i
    · subst e; simp [hi]
    · have e' : i ≠ k := fun h => e h.symm
      simp [e, e', hi]
  · by_cases e : k = i
    · subst e; simp [hi]
    · simp [e, hi]
theorem boolRow_set (n : Nat) (f : Nat → Bool) (k : Nat) (x : Bool) : (boolRow n f).set k (.bool x) = boolRow n (updB f k x) := by
  apply List.ext_getElem?
  intro i
  unfold boolRow updB
  rw [List.getElem?_set]
  by_cases hi : i < n
  · by_cases e : k = i
    · subst e; simp [hi]
    · have e' : i ≠ k := fun h => e h.symm
      simp [e, e', hi]
  · by_cases e : k = i
    · subst e; simp [hi]
    · simp [e, hi]

/-- The cells of a list of numbers. -/
def nums (l : List Nat) : List Value := l.map fun (v : Nat) => .int .i64 (v : Int)
theorem nums_length (l : List Nat) : (nums l).length = l.length := by simp [nums]

/-- A slice that the call may let grow: nil, or the head of a block of its own. -/
abbrev Row (w : World) (base : Nat) (e : TypeId) (v : Value) (xs : List Value) : Prop := w.ownsRow base e 1 v xs.length xs

theorem Row.chg {F : Nat → Prop} {w w1 : World} {base : Nat} {e : TypeId} {v : Value} {n : Nat} {xs : List Value} (h : w.ownsRow base e 1 v n xs) (hc : Chg F w w1) (hF : ∀ b, v.ownBlock = some b → ¬ F b) : w1.ownsRow base e 1 v n xs := by
  obtain ⟨h1, h2⟩ := h
  refine ⟨h1, ?_⟩
  rcases h2 with h2 | ⟨g, cap, cur, hv, hg, hh, r⟩
  · exact .inl h2
  · subst hv
    exact .inr ⟨g, cap, cur, rfl, hg, by rw [hc.block g (lt_of_block hh) (hF g rfl)]; exact hh, r⟩

/-- What such a slice is. -/
theorem Row.look {w : World} {base : Nat} {e : TypeId} {v : Value} {n : Nat} {xs : List Value} (h : w.ownsRow base e 1 v n xs) :
    (v = .slice none 0 0 ∧ n = 0 ∧ xs = []) ∨ ∃ g cap, v = .slice (some ⟨g, 0, none⟩) n cap ∧ base ≤ g ∧ g < w.heap.size ∧ n ≤ cap ∧ cap ≤ maxLen ∧ (∀ i u, xs[i]? = some u → w.cell? ⟨g, i, none⟩ = some u) ∧ (∀ i, w.frozen? ⟨g, i, none⟩ = false) ∧ ∃ cur, w.heap[g]? = some (.cells cur e (0, 0)) ∧ cur.size = cap ∧ cur.toList.take n = xs := by
  obtain ⟨h1, h2⟩ := h
  rcases h2 with ⟨hv, hn⟩ | ⟨g, cap, cur, hv, hg, hh, hle, hm, hs, ht⟩
  · subst hn
    exact .inl ⟨hv, rfl, List.eq_nil_of_length_eq_zero (by simpa using h1)⟩
  · refine .inr ⟨g, cap, hv, hg, lt_of_block hh, hle, hm, ?_, ?_, cur, hh, by simpa using hs, by simpa using ht⟩
    · intro i u hu
      have hi : i < n := by
        have := (List.getElem?_eq_some_iff.1 hu).1
        rw [h1] at this
        omega
      rw [← ht, Nat.mul_one, List.getElem?_take, if_pos hi] at hu
      simp [World.cell?, hh]
      simpa using hu
    · intro i
      simp [World.frozen?, hh]

/-- Cut down to its first m. -/
theorem Row.cut {w : World} {base : Nat} {e : TypeId} {g n cap : Nat} {xs : List Value} (h : w.ownsRow base e 1 (.slice (some ⟨g, 0, none⟩) n cap) n xs) {m : Nat} (hm : m ≤ n) : w.ownsRow base e 1 (.slice (some ⟨g, 0, none⟩) m cap) m (xs.take m) := by
  obtain ⟨h1, h2⟩ := h
  refine ⟨by simp at h1 ⊢; omega, ?_⟩
  rcases h2 with ⟨hv, _⟩ | ⟨g', cap', cur, hv, hg, hh, hle, hmx, hs, ht⟩
  · cases hv
  · cases hv
    refine .inr ⟨g, cap, cur, rfl, hg, hh, by omega, hmx, hs, ?_⟩
    rw [← ht, Nat.mul_one, Nat.mul_one, List.take_take, Nat.min_eq_left hm]

/-- A cell of it written. -/
theorem Row.set {w : World} {base : Nat} {e : TypeId} {g n cap : Nat} {xs : List Value} (h : w.ownsRow base e 1 (.slice (some ⟨g, 0, none⟩) n cap) n xs) (i : Nat) (u : Value) : (w.setCell ⟨g, i, none⟩ u).ownsRow base e 1 (.slice (some ⟨g, 0, none⟩) n cap) n (xs.set i u) := by
  obtain ⟨h1, h2⟩ := h
  refine ⟨by simpa using h1, ?_⟩
  rcases h2 with ⟨hv, _⟩ | ⟨g', cap', cur, hv, hg, hh, hle, hmx, hs, ht⟩
  · cases hv
  · cases hv
    have hb : Blk w g cur.toList e := hh
    have := hb.set i u
    refine .inr ⟨g, cap, _, rfl, hg, this, hle, hmx, by simpa using hs, ?_⟩
    simp only [Nat.mul_one] at ht ⊢
    rw [List.take_set, ht]

/-- append(s, u) where the literal [u] has just been laid. -/
theorem wp_push {P : Program} {w W : World} {ops : Array Oper} {rest : List Oper} {o : Oper} {a : Act} {Q : Exit → Act → World → Prop} (hg : o.guard = none) (s x : Operand) (t : TypeId)
    (hop : o.op = Op.call { callee := Callee.builtin Builtin.append, args := #[s, x], argTypes := #[t, t] }) (base : Nat) (e : TypeId) {z : Value} {bytes : Nat} (ht : P.underlying t = some (.slice e))
    (hinfo : (P.info? e).map (fun i => (i.zero, i.size, i.bytes)) = some (some z, 1, bytes)) (hz : z.cells.size = 1) (v : Value) (n : Nat) (xs : List Value) (hs : a.eval s = v) (hown : w.ownsRow base e 1 v n xs) (u : Value) (hu : u.oneCell' = true)
    (g : Nat) (hx : a.eval x = .slice (some ⟨g, 0, none⟩) 1 1) (hW : Chg (fun _ => False) w W) (hcell : W.cell? ⟨g, 0, none⟩ = some u) (hn : n ≤ 1048576) (hb : bytes ≤ 64) (hbase : base ≤ w.heap.size)
    (K : ∀ g cap w', w'.ownsRow base e 1 (.slice (some ⟨g, 0, none⟩) (n + 1) cap) (n + 1) (xs ++ [u]) → Chg (fun k => v.ownBlock = some k) w w' → (v.ownBlock = some g ∨ w.heap.size ≤ g) → base ≤ g → wpList P ops Q rest (a.put o.dst (.slice (some ⟨g, 0, none⟩) (n + 1) cap)) w') :
    wpList P ops Q (o :: rest) a W := by
  obtain ⟨i0, hi, hz0, hz1, hz2⟩ := info_parts hinfo
  refine wpList_append_own_at _ hg s x t hop base e i0 z 1 bytes ht hi hz0 hz1 hz2 hz (by decide) v n xs hs (Row.chg hown hW (fun _ _ h => h)) ⟨g, 0, none⟩ 1 1 [u] hx rfl ?_ ?_ ?_ ?_ ?_ ?_
  · intro j y hy
    have hj : j = 0 := by
      have := (List.getElem?_eq_some_iff.1 hy).1
      simpa using this
    subst hj
    simp at hy
    subst hy
    exact hcell
  · intro y hy
    simp at hy
    subst hy
    exact hu
  · unfold maxLen; omega
  · have : (n + 1) * bytes ≤ 1048577 * 64 := Nat.mul_le_mul (by omega) hb
    omega
  · exact Nat.le_trans hbase hW.size
  · intro v' w' h1 h2 _ h4
    have hsz := hW.size
    rcases Row.look h1 with ⟨_, h, _⟩ | ⟨g', cap, hv, hb, _⟩
    · omega
    · subst hv
      refine K g' cap w' h1 ((hW.mono (fun _ h => h.elim)).trans (Chg.grown h2) (fun b hb => .inl hb.symm)) ?_ hb
      rcases h4 with h4 | h4
      · exact .inl h4.symm
      · right
        have e : g' = W.heap.size := by simpa [Value.ownBlock] using h4
        omega

end Go.Proofs.Qxb6616078a
