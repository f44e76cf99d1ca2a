/- modelCycles: what its loops keep. -/
import Derived.Test.Qxb6616078aSort35
import Derived.Test.Qxb6616078aBfs
import Derived.Test.Qxb6616078aLaw4
namespace Go.Proofs.Qxb6616078a
open Go.RowKit Tj

theorem GR.chgF {F : Nat → Prop} {w w1 : World} {base : Nat} {v : Value} {hdrs : List Value} {grps : List (List (List UInt8))} (h : GR w base v hdrs grps) (hc : Chg F w w1) (h1 : ∀ k, v.ownBlock = some k → ¬ F k) (h2 : ∀ x ∈ hdrs, ∀ k, x.ownBlock = some k → ¬ F k) : GR w1 base v hdrs grps where
  row := Row.chg h.row hc (fun b hb hf => h1 b hb hf)
  len := h.len
  rows i x g hx hg := by
    obtain ⟨b, cap, e1, e2, e3⟩ := h.rows i x g hx hg
    exact ⟨b, cap, e1, e2, Row.chg e3 hc (fun k hk hf => h2 x (List.mem_of_getElem? hx) k hk hf)⟩

/-- Where the blocks of the groups lie. -/
theorem GR.blocks {w : World} {base : Nat} {v : Value} {hdrs : List Value} {grps : List (List (List UInt8))} (h : GR w base v hdrs grps) : (∀ k, v.ownBlock = some k → base ≤ k ∧ k < w.heap.size) ∧ ∀ x ∈ hdrs, ∀ k, x.ownBlock = some k → base ≤ k ∧ k < w.heap.size := by
  refine ⟨fun k hk => own_ge' h.row hk, fun x hx k hk => ?_⟩
  obtain ⟨i, hi, rfl⟩ := List.getElem_of_mem hx
  obtain ⟨b, cap, e1, e2, e3⟩ := h.rows i _ _ (List.getElem?_eq_getElem hi) (List.getElem?_eq_getElem (by rw [← h.len]; exact hi))
  exact own_ge' e3 hk

theorem Row.base {w : World} {base base' : Nat} {e : TypeId} {v : Value} {n : Nat} {xs : List Value} (h : w.ownsRow base e 1 v n xs) (hb : base' ≤ base) : w.ownsRow base' e 1 v n xs := by
  refine ⟨h.1, ?_⟩
  rcases h.2 with h2 | ⟨g, cap, cur, h1, h2, h3⟩
  · exact .inl h2
  · exact .inr ⟨g, cap, cur, h1, by omega, h3⟩

def nameOf (ss : List (List UInt8)) (v : Nat) : List UInt8 := ss.getD v []
def groupsOf (ss : List (List UInt8)) (cs : List (List Nat)) : List (List (List UInt8)) := (cs.filter fun c => decide (1 < c.length)).map fun c => (c.map (nameOf ss)).mergeSort leB

/-- The outer loop, at v. -/
structure MS (ss : List (List UInt8)) (adj : Nat → List Nat) (D : Nat) (w1 wr : World) (fd : Nat → Bool) (cs : List (List Nat)) (vg : Value) (hdrs : List Value) (v : Nat) : Prop where
  done : Blk wr D (boolRow ss.length fd) 4
  fdE : ∀ x, x < ss.length → (fd x = true ↔ x ∈ cs.flatten)
  mg : MG ss.length adj cs v
  gr : GR wr (D + 1) vg hdrs (groupsOf ss cs)
  chg : Chg (fun _ => False) w1 wr

/-- The inner loop of v, at k; N0: where the memory ended as v's turn began. -/
structure IS (ss : List (List UInt8)) (D : Nat) (R : Nat → Nat → Bool) (N0 : Nat) (w1 W : World) (f : Nat → Bool) (cs : List (List Nat)) (vg : Value) (hdrs : List Value) (v k : Nat) (vr : Value) : Prop where
  done : Blk W D (boolRow ss.length f) 4
  fE : ∀ x, x < ss.length → (f x = true ↔ x ∈ cs.flatten ∨ x ∈ classTo R cs.flatten v k)
  row : W.ownsRow N0 9 1 vr (classTo R cs.flatten v k).length (((classTo R cs.flatten v k).map (nameOf ss)).map encStr)
  gr : GR W (D + 1) vg hdrs (groupsOf ss cs)
  old1 : ∀ b, vg.ownBlock = some b → b < N0
  old2 : ∀ x ∈ hdrs, ∀ b, x.ownBlock = some b → b < N0
  dN : D < N0
  nW : N0 ≤ W.heap.size
  chg : Chg (fun _ => False) w1 W

section
variable {ss : List (List UInt8)} {adj : Nat → List Nat} {D : Nat} {R : Nat → Nat → Bool} {N0 : Nat} {w1 wr W : World} {fd f : Nat → Bool} {cs : List (List Nat)} {vg vr : Value} {hdrs : List Value} {v k : Nat}

theorem MS.skip (h : MS ss adj D w1 wr fd cs vg hdrs v) (hv : v < ss.length) (hd : fd v = true) : MS ss adj D w1 wr fd cs vg hdrs (v + 1) := ⟨h.done, h.fdE, h.mg.skip ((h.fdE v hv).1 hd), h.gr, h.chg⟩

theorem MS.open_ (h : MS ss adj D w1 wr fd cs vg hdrs v) (hD : w1.heap.size ≤ D) : IS ss D R wr.heap.size w1 ((wr.setCell ⟨D, v, none⟩ (.bool true)).alloc (.cells #[encStr (nameOf ss v)] 9)) (updB fd v true) cs vg hdrs v (v + 1) (.slice (some ⟨wr.heap.size, 0, none⟩) 1 1) := by
  have hb := h.gr.blocks
  have hs := Chg.setCell wr ⟨D, v, none⟩ (.bool true)
  have ha := Chg.alloc (fun _ => False) (wr.setCell ⟨D, v, none⟩ (.bool true)) (.cells #[encStr (nameOf ss v)] 9)
  have hsz : (wr.setCell ⟨D, v, none⟩ (.bool true)).heap.size = wr.heap.size := by simp
  exact {
    done := by
      have h1 := h.done.set v (.bool true)
      rw [boolRow_set] at h1
      exact h1.chg ha (fun h => h)
    fE := fun x hx => by
      rw [classTo_start]
      unfold updB
      by_cases e : x = v
      · subst e; simp
      · simp [e, h.fdE x hx]
    row := by
      rw [classTo_start]
      refine ⟨rfl, .inr ⟨wr.heap.size, 1, #[encStr (nameOf ss v)], rfl, Nat.le_refl _, ?_, Nat.le_refl _, by decide, rfl, rfl⟩⟩
      have := heap_alloc_new (wr.setCell ⟨D, v, none⟩ (.bool true)) (.cells #[encStr (nameOf ss v)] 9)
      rw [hsz] at this
      exact this
    gr := by
      refine (h.gr.chgF hs (fun k hk e => ?_) (fun x hx k hk e => ?_)).chgF ha (fun _ _ h => h) (fun _ _ _ _ h => h)
      · have := (hb.1 k hk).1
        have e1 : k = D := e
        omega
      · have := (hb.2 x hx k hk).1
        have e1 : k = D := e
        omega
    old1 := fun b hb' => (hb.1 b hb').2
    old2 := fun x hx b hb' => (hb.2 x hx b hb').2
    dN := h.done.lt
    nW := by simp
    chg := (h.chg.trans hs (fun b hb => .inr (by have e : b = D := hb; omega))).trans ha (fun _ h => h.elim) }

theorem IS.notYet (h : IS ss D R N0 w1 W f cs vg hdrs v k vr) (hk : k < ss.length) (hv : v < k) : f k = cs.flatten.contains k := by
  rw [Bool.eq_iff_iff, h.fE k hk]
  have : k ∉ classTo R cs.flatten v k := fun hm => by have := classTo_lt hv hm; omega
  simp [this]

theorem IS.keep (h : IS ss D R N0 w1 W f cs vg hdrs v k vr) (hv : v < k) (hno : (!cs.flatten.contains k && R v k && R k v) = false) : IS ss D R N0 w1 W f cs vg hdrs v (k + 1) vr := by
  have e : classTo R cs.flatten v (k + 1) = classTo R cs.flatten v k := by
    rw [classTo_succ R cs.flatten v k hv, hno]
    simp
  exact ⟨h.done, by rw [e]; exact h.fE, by rw [e]; exact h.row, h.gr, h.old1, h.old2, h.dN, h.nW, h.chg⟩

theorem IS.rowSet (h : IS ss D R N0 w1 W f cs vg hdrs v k vr) (x : Nat) : (W.setCell ⟨D, x, none⟩ (.bool true)).ownsRow N0 9 1 vr (classTo R cs.flatten v k).length (((classTo R cs.flatten v k).map (nameOf ss)).map encStr) :=
  Row.chg h.row (Chg.setCell W ⟨D, x, none⟩ _) (fun b hb hf => by
    have := (own_ge' h.row hb).1
    have e : b = D := hf
    have := h.dN
    omega)

theorem IS.push (h : IS ss D R N0 w1 W f cs vg hdrs v k vr) (hD : w1.heap.size ≤ D) (hv : v < k) (hyes : (!cs.flatten.contains k && R v k && R k v) = true) {w4 : World} {vr' : Value}
    (hr : w4.ownsRow N0 9 1 vr' ((classTo R cs.flatten v k).length + 1) (((classTo R cs.flatten v k).map (nameOf ss)).map encStr ++ [encStr (nameOf ss k)])) (hc : Chg (fun b => vr.ownBlock = some b) (W.setCell ⟨D, k, none⟩ (.bool true)) w4) :
    IS ss D R N0 w1 w4 (updB f k true) cs vg hdrs v (k + 1) vr' := by
  have e : classTo R cs.flatten v (k + 1) = classTo R cs.flatten v k ++ [k] := by
    rw [classTo_succ R cs.flatten v k hv, hyes]
    simp
  have hb := h.gr.blocks
  have hs := Chg.setCell W ⟨D, k, none⟩ (.bool true)
  have hge : ∀ b, vr.ownBlock = some b → N0 ≤ b := fun b hb => (own_ge' h.row hb).1
  have hdN := h.dN
  exact {
    done := by
      have h1 := h.done.set k (.bool true)
      rw [boolRow_set] at h1
      exact h1.chg hc (fun e => by have := hge D e; omega)
    fE := fun x hx => by
      rw [e]
      unfold updB
      by_cases ex : x = k
      · subst ex; simp
      · simp [ex, h.fE x hx]
    row := by
      rw [e]
      simpa using hr
    gr := by
      refine (h.gr.chgF hs (fun q hq e => ?_) (fun x hx q hq e => ?_)).chgF hc (fun q hq e => ?_) (fun x hx q hq e => ?_)
      · have := (hb.1 q hq).1
        have e1 : q = D := e
        omega
      · have := (hb.2 x hx q hq).1
        have e1 : q = D := e
        omega
      · have := h.old1 q hq
        have := hge q e
        omega
      · have := h.old2 x hx q hq
        have := hge q e
        omega
    old1 := h.old1
    old2 := h.old2
    dN := h.dN
    nW := Nat.le_trans (by simpa using h.nW) hc.size
    chg := (h.chg.trans hs (fun b hb => .inr (by have e : b = D := hb; omega))).trans hc (fun b hb => .inr (by have := hge b hb; omega)) }

theorem groupsOf_snoc (ss : List (List UInt8)) (cs : List (List Nat)) (c : List Nat) : groupsOf ss (cs ++ [c]) = if 1 < c.length then groupsOf ss cs ++ [(c.map (nameOf ss)).mergeSort leB] else groupsOf ss cs := by
  unfold groupsOf
  by_cases h : 1 < c.length
  · simp [h]
  · simp [h]

theorem IS.fin (h : IS ss D R N0 w1 W f cs vg hdrs v ss.length vr) (x : Nat) (hx : x < ss.length) : f x = true ↔ x ∈ (cs ++ [classTo R cs.flatten v ss.length]).flatten := by
  rw [h.fE x hx]
  simp

/-- v's turn ends: a group of v alone. -/
theorem IS.small (h : IS ss D R N0 w1 W f cs vg hdrs v ss.length vr) (hmg : MG ss.length adj (cs ++ [classTo R cs.flatten v ss.length]) (v + 1)) (h1 : ¬ 1 < (classTo R cs.flatten v ss.length).length) : MS ss adj D w1 W f (cs ++ [classTo R cs.flatten v ss.length]) vg hdrs (v + 1) :=
  ⟨h.done, h.fin, hmg, by rw [groupsOf_snoc, if_neg h1]; exact h.gr, h.chg⟩

/-- v's turn ends: a group of two or more, sorted in w5, and appended in w6. -/
theorem IS.big (h : IS ss D R N0 w1 W f cs vg hdrs v ss.length vr) (hD : w1.heap.size ≤ D) (hmg : MG ss.length adj (cs ++ [classTo R cs.flatten v ss.length]) (v + 1)) (h1 : 1 < (classTo R cs.flatten v ss.length).length) {w5 w6 : World} {vg' : Value}
    (hc5 : Chg (fun b => vr.ownBlock = some b) W w5) (hr5 : w5.ownsRow N0 9 1 vr (classTo R cs.flatten v ss.length).length ((((classTo R cs.flatten v ss.length).map (nameOf ss)).mergeSort leB).map encStr))
    (hr6 : w6.ownsRow (D + 1) 22 1 vg' (hdrs.length + 1) (hdrs ++ [vr])) (hc6 : Chg (fun b => vg.ownBlock = some b) w5 w6) (hg6 : ∀ b, vg'.ownBlock = some b → vg.ownBlock = some b ∨ w5.heap.size ≤ b) :
    MS ss adj D w1 w6 f (cs ++ [classTo R cs.flatten v ss.length]) vg' (hdrs ++ [vr]) (v + 1) := by
  have hge : ∀ b, vr.ownBlock = some b → N0 ≤ b ∧ b < w5.heap.size := fun b hb => own_ge' hr5 hb
  have hdN := h.dN
  have hb := h.gr.blocks
  have hgr5 : GR w5 (D + 1) vg hdrs (groupsOf ss cs) := h.gr.chgF hc5 (fun q hq e => by have := h.old1 q hq; have := (hge q e).1; omega) (fun x hx q hq e => by have := h.old2 x hx q hq; have := (hge q e).1; omega)
  have hb5 := hgr5.blocks
  exact {
    done := (h.done.chg hc5 (fun e => by have := (hge D e).1; omega)).chg hc6 (fun e => by have := (hb5.1 D e).1; omega)
    fdE := h.fin
    mg := hmg
    gr := by
      rw [groupsOf_snoc, if_pos h1]
      refine ⟨by rw [List.length_append]; exact hr6, by simp [h.gr.len], fun i x g hx hg => ?_⟩
      by_cases hi : i < hdrs.length
      · rw [List.getElem?_append_left hi] at hx
        rw [List.getElem?_append_left (by rw [← h.gr.len]; exact hi)] at hg
        obtain ⟨b, cap, e1, e2, e3⟩ := hgr5.rows i x g hx hg
        have hxb : x.ownBlock = some b := by rw [e1]; rfl
        refine ⟨b, cap, e1, fun e => ?_, Row.chg e3 hc6 (fun q hq hf => ?_)⟩
        · rcases hg6 b e with h2 | h2
          · exact e2 h2
          · have := (own_ge' e3 hxb).2
            omega
        · rw [hxb] at hq
          cases hq
          exact e2 hf
      · have hi' : i = hdrs.length := by
          have := (List.getElem?_eq_some_iff.1 hx).1
          simp at this
          omega
        subst hi'
        rw [List.getElem?_append_right (Nat.le_refl _)] at hx
        rw [h.gr.len, List.getElem?_append_right (Nat.le_refl _)] at hg
        simp at hx hg
        subst hx
        subst hg
        have hlen : (((classTo R cs.flatten v ss.length).map (nameOf ss)).mergeSort leB).length = (classTo R cs.flatten v ss.length).length := by rw [List.length_mergeSort, List.length_map]
        rcases Row.look hr5 with ⟨_, hz, _⟩ | ⟨b, cap, hv, _⟩
        · omega
        · have hxb : vr.ownBlock = some b := by rw [hv]; rfl
          refine ⟨b, cap, by rw [hlen]; exact hv, fun e => ?_, ?_⟩
          · rcases hg6 b e with h2 | h2
            · have := h.old1 b h2
              have := (hge b hxb).1
              omega
            · have := (hge b hxb).2
              omega
          · rw [hlen]
            refine Row.base (Row.chg hr5 hc6 (fun q hq hf => ?_)) (by omega)
            rw [hxb] at hq
            cases hq
            have := h.old1 b hf
            have := (hge b hxb).1
            omega
    chg := (h.chg.trans hc5 (fun b hb' => .inr (by have := (hge b hb').1; omega))).trans hc6 (fun b hb' => .inr (by have := (hb5.1 b hb').1; omega)) }
end
end Go.Proofs.Qxb6616078a
