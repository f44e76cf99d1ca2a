/- What the closure of cycles keeps: the self loops and the groups so far. -/
import Derived.Test.Qxb6616078aOf
import Derived.Test.Qxb6616078aShelf
import Derived.Test.Qxb6616078aCanon
import Derived.Sort.OwnSorted
namespace Go.Proofs.Qxb6616078a
open Go.RowKit Tj

/-- x.names, x.number, and the names themselves; b0: the block of x; then come the groups' box and the self loops' box. -/
structure XP where
  A : Adj
  b0 : Nat
  nv : Value
  mv : Value
  bn : Nat
  cn : Nat
  nm : Nat → List UInt8

def XP.Dom (X : XP) (vself vgroups : Value) (hdrs : List Value) (k : Nat) : Prop := k = X.b0 + 1 ∨ k = X.b0 + 2 ∨ vself.ownBlock = some k ∨ vgroups.ownBlock = some k ∨ ∃ h ∈ hdrs, h.ownBlock = some k

structure FCore (X : XP) (w : World) (vself vgroups : Value) (hdrs : List Value) (selfs : List (List UInt8)) (grps : List (List (List UInt8))) : Prop where
  xB : Blk w X.b0 [X.nv, X.mv, X.A.sv, X.A.lv] 55
  nE : X.A.n = 0 ∨ X.nv = .slice (some ⟨X.bn, 0, none⟩) X.A.n X.cn
  nC : ∀ v, v < X.A.n → w.cell? ⟨X.bn, v, none⟩ = some (encStr (X.nm v))
  nL : X.bn ≤ X.b0
  adj : X.A.At w (X.b0 + 1)
  gB : Blk w (X.b0 + 1) [vgroups] 30
  sB : Blk w (X.b0 + 2) [vself] 22
  sR : w.ownsRow (X.b0 + 3) 9 1 vself selfs.length (selfs.map encStr)
  gR : w.ownsRow (X.b0 + 3) 22 1 vgroups hdrs.length hdrs
  hL : hdrs.length = grps.length
  hR : ∀ (i : Nat) (h : Value) (g : List (List UInt8)), hdrs[i]? = some h → grps[i]? = some g → ∃ b cap, h = .slice (some ⟨b, 0, none⟩) g.length cap ∧ vself.ownBlock ≠ some b ∧ vgroups.ownBlock ≠ some b ∧ w.ownsRow (X.b0 + 3) 9 1 h g.length (g.map encStr)

theorem own_ge {w : World} {base : Nat} {e : TypeId} {v : Value} {n : Nat} {xs : List Value} (h : w.ownsRow base e 1 v n xs) {k : Nat} (hk : v.ownBlock = some k) : base ≤ k ∧ k < w.heap.size := by
  rcases Row.look h with ⟨hv, _⟩ | ⟨g, cap, hv, hg, hl, _⟩
  · subst hv; cases hk
  · subst hv
    have e : g = k := by simpa [Value.ownBlock] using hk
    subst e
    exact ⟨hg, hl⟩

theorem own_ne {w : World} {base : Nat} {e e' : TypeId} {v v' : Value} {n n' : Nat} {xs xs' : List Value} (h : w.ownsRow base e 1 v n xs) (h' : w.ownsRow base e' 1 v' n' xs') (he : e ≠ e') {k : Nat} (hk : v.ownBlock = some k) : v'.ownBlock ≠ some k := by
  intro hk'
  rcases Row.look h with ⟨hv, _⟩ | ⟨g, cap, hv, hg, hl, _, _, _, _, cur, hc, _⟩
  · subst hv; cases hk
  · rcases Row.look h' with ⟨hv', _⟩ | ⟨g', cap', hv', hg', hl', _, _, _, _, cur', hc', _⟩
    · subst hv'; cases hk'
    · subst hv
      subst hv'
      have e1 : g = k := by simpa [Value.ownBlock] using hk
      have e2 : g' = k := by simpa [Value.ownBlock] using hk'
      subst e1
      subst e2
      rw [hc] at hc'
      injection hc' with hc'
      injection hc' with _ hc'
      exact he hc'

section
variable {X : XP} {w : World} {vself vgroups : Value} {hdrs : List Value} {selfs : List (List UInt8)} {grps : List (List (List UInt8))}

theorem FCore.lt (h : FCore X w vself vgroups hdrs selfs grps) {k : Nat} (hk : X.Dom vself vgroups hdrs k) : k < w.heap.size ∧ X.b0 + 1 ≤ k := by
  rcases hk with rfl | rfl | hk | hk | ⟨x, hx, hk⟩
  · exact ⟨h.gB.lt, Nat.le_refl _⟩
  · exact ⟨h.sB.lt, by omega⟩
  · have := own_ge h.sR hk; omega
  · have := own_ge h.gR hk; omega
  · obtain ⟨i, hi, rfl⟩ := List.getElem_of_mem hx
    have hg : i < grps.length := by rw [← h.hL]; exact hi
    obtain ⟨b, cap, e1, _, _, e2⟩ := h.hR i _ _ (List.getElem?_eq_getElem hi) (List.getElem?_eq_getElem hg)
    have := own_ge e2 hk
    omega

theorem FCore.chg (h : FCore X w vself vgroups hdrs selfs grps) {G : Nat → Prop} {w' : World} (hc : Chg G w w') (hG : ∀ k, G k → X.b0 + 1 ≤ k ∧ ¬ X.Dom vself vgroups hdrs k) : FCore X w' vself vgroups hdrs selfs grps where
  xB := h.xB.chg hc (fun hf => by have := (hG _ hf).1; omega)
  nE := h.nE
  nC v hv := hc.cell (h.nC v hv) (fun hf => by have h1 := (hG _ hf).1; have h2 := h.nL; simp at h1; omega)
  nL := h.nL
  adj := h.adj.chg hc (fun k hf => (hG k hf).1)
  gB := h.gB.chg hc (fun hf => (hG _ hf).2 (.inl rfl))
  sB := h.sB.chg hc (fun hf => (hG _ hf).2 (.inr (.inl rfl)))
  sR := Row.chg h.sR hc (fun b e hf => (hG b hf).2 (.inr (.inr (.inl e))))
  gR := Row.chg h.gR hc (fun b e hf => (hG b hf).2 (.inr (.inr (.inr (.inl e)))))
  hL := h.hL
  hR i x g hx hg := by
    obtain ⟨b, cap, e1, e2, e3, e4⟩ := h.hR i x g hx hg
    exact ⟨b, cap, e1, e2, e3, Row.chg e4 hc (fun b' e hf => (hG b' hf).2 (.inr (.inr (.inr (.inr ⟨x, List.mem_of_getElem? hx, e⟩)))))⟩

/-- selfLoops = append(selfLoops, s). -/
theorem FCore.pushSelf (h : FCore X w vself vgroups hdrs selfs grps) {w4 : World} {g' cap' : Nat} {s : List UInt8} (hc : Chg (fun k => vself.ownBlock = some k) w w4) (hr : w4.ownsRow (X.b0 + 3) 9 1 (.slice (some ⟨g', 0, none⟩) (selfs.length + 1) cap') (selfs.length + 1) (selfs.map encStr ++ [encStr s])) (hg : vself.ownBlock = some g' ∨ w.heap.size ≤ g') :
    FCore X (w4.setCell ⟨X.b0 + 2, 0, none⟩ (.slice (some ⟨g', 0, none⟩) (selfs.length + 1) cap')) (.slice (some ⟨g', 0, none⟩) (selfs.length + 1) cap') vgroups hdrs (selfs ++ [s]) grps := by
  have hs := Chg.setCell w4 ⟨X.b0 + 2, 0, none⟩ (.slice (some ⟨g', 0, none⟩) (selfs.length + 1) cap')
  have hb : ∀ k, k < X.b0 + 3 → ¬ (vself.ownBlock = some k) := fun k hk e => by have := (own_ge h.sR e).1; omega
  have hg3 : X.b0 + 3 ≤ g' := (own_ge hr (k := g') rfl).1
  have hlt : X.b0 + 1 < w.heap.size := h.gB.lt
  exact {
    xB := (h.xB.chg hc (hb _ (by omega))).chg hs (by simp)
    nE := h.nE
    nC := fun v hv => hs.cell (hc.cell (h.nC v hv) (hb _ (by have := h.nL; simp; omega))) (by have := h.nL; simp; omega)
    nL := h.nL
    adj := (h.adj.chg hc (fun k hk => by have := (own_ge h.sR hk).1; omega)).chg hs (fun k hk => by simp at hk; omega)
    gB := (h.gB.chg hc (hb _ (by omega))).chg hs (by simp)
    sB := (h.sB.chg hc (hb _ (by omega))).set 0 _
    sR := by
      rw [List.map_append, List.length_append]
      exact Row.chg hr hs (fun b e hf => by
        have e1 : g' = b := by simpa [Value.ownBlock] using e
        simp at hf
        omega)
    gR := Row.chg (Row.chg h.gR hc (fun b e hf => own_ne h.sR h.gR (by decide) hf e)) hs (fun b e hf => by have := (own_ge h.gR e).1; simp at hf; omega)
    hL := h.hL
    hR := fun i x g hx hgg => by
      obtain ⟨b, cap, e1, e2, e3, e4⟩ := h.hR i x g hx hgg
      have hx1 : x.ownBlock = some b := by rw [e1]; rfl
      refine ⟨b, cap, e1, ?_, e3, ?_⟩
      · intro e
        have e5 : g' = b := by simpa [Value.ownBlock] using e
        subst e5
        rcases hg with hg | hg
        · exact e2 hg
        · have := (own_ge e4 hx1).2
          omega
      · refine Row.chg (Row.chg e4 hc (fun b' e hf => ?_)) hs (fun b' e hf => by have := (own_ge e4 e).1; simp at hf; omega)
        rw [hx1] at e
        injection e with e
        subst e
        exact e2 hf }

/-- groups = append(groups, group), group's row being laid and in no other's hands. -/
theorem FCore.pushGroup (h : FCore X w vself vgroups hdrs selfs grps) {w4 : World} {g' cap' : Nat} {g : List (List UInt8)} {b cb : Nat} (hnew : w.ownsRow (X.b0 + 3) 9 1 (.slice (some ⟨b, 0, none⟩) g.length cb) g.length (g.map encStr)) (hnd : ¬ X.Dom vself vgroups hdrs b)
    (hc : Chg (fun k => vgroups.ownBlock = some k) w w4) (hr : w4.ownsRow (X.b0 + 3) 22 1 (.slice (some ⟨g', 0, none⟩) (hdrs.length + 1) cap') (hdrs.length + 1) (hdrs ++ [.slice (some ⟨b, 0, none⟩) g.length cb])) (hg : vgroups.ownBlock = some g' ∨ w.heap.size ≤ g') :
    FCore X (w4.setCell ⟨X.b0 + 1, 0, none⟩ (.slice (some ⟨g', 0, none⟩) (hdrs.length + 1) cap')) vself (.slice (some ⟨g', 0, none⟩) (hdrs.length + 1) cap') (hdrs ++ [.slice (some ⟨b, 0, none⟩) g.length cb]) selfs (grps ++ [g]) := by
  have hs := Chg.setCell w4 ⟨X.b0 + 1, 0, none⟩ (.slice (some ⟨g', 0, none⟩) (hdrs.length + 1) cap')
  have hb : ∀ k, k < X.b0 + 3 → ¬ (vgroups.ownBlock = some k) := fun k hk e => by have := (own_ge h.gR e).1; omega
  have hg3 : X.b0 + 3 ≤ g' := (own_ge hr (k := g') rfl).1
  have hblt := own_ge hnew (k := b) rfl
  have hnb : ∀ x, (vself.ownBlock = some x ∨ ∃ y ∈ hdrs, y.ownBlock = some x) → ¬ (vgroups.ownBlock = some x) := by
    rintro x (hx | ⟨y, hy, hx⟩) hv
    · exact own_ne h.sR h.gR (by decide) hx hv
    · obtain ⟨i, hi, rfl⟩ := List.getElem_of_mem hy
      have hgl : i < grps.length := by rw [← h.hL]; exact hi
      obtain ⟨b', cap, e1, _, e3, e2⟩ := h.hR i _ _ (List.getElem?_eq_getElem hi) (List.getElem?_eq_getElem hgl)
      rw [e1] at hx
      have e5 : b' = x := by simpa [Value.ownBlock] using hx
      subst e5
      exact e3 hv
  exact {
    xB := (h.xB.chg hc (hb _ (by omega))).chg hs (by simp)
    nE := h.nE
    nC := fun v hv => hs.cell (hc.cell (h.nC v hv) (hb _ (by have := h.nL; simp; omega))) (by have := h.nL; simp; omega)
    nL := h.nL
    adj := (h.adj.chg hc (fun k hk => by have := (own_ge h.gR hk).1; omega)).chg hs (fun k hk => by simp at hk; omega)
    gB := (h.gB.chg hc (hb _ (by omega))).set 0 _
    sB := (h.sB.chg hc (hb _ (by omega))).chg hs (by simp)
    sR := Row.chg (Row.chg h.sR hc (fun b e hf => hnb b (.inl e) hf)) hs (fun b e hf => by have := (own_ge h.sR e).1; simp at hf; omega)
    gR := by
      rw [List.length_append]
      exact Row.chg hr hs (fun b e hf => by
        have e1 : g' = b := by simpa [Value.ownBlock] using e
        simp at hf
        omega)
    hL := by simp [h.hL]
    hR := fun i x y hx hy => by
      by_cases hi : i < hdrs.length
      · rw [List.getElem?_append_left hi] at hx
        rw [List.getElem?_append_left (by rw [← h.hL]; exact hi)] at hy
        obtain ⟨b', cap, e1, e2, e3, e4⟩ := h.hR i x y hx hy
        have hx1 : x.ownBlock = some b' := by rw [e1]; rfl
        refine ⟨b', cap, e1, e2, ?_, ?_⟩
        · intro e
          have e5 : g' = b' := by simpa [Value.ownBlock] using e
          subst e5
          rcases hg with hg | hg
          · exact e3 hg
          · have := (own_ge e4 hx1).2
            omega
        · refine Row.chg (Row.chg e4 hc (fun b'' e hf => ?_)) hs (fun b'' e hf => by have := (own_ge e4 e).1; simp at hf; omega)
          rw [hx1] at e
          injection e with e
          subst e
          exact e3 hf
      · have hi' : i = hdrs.length := by
          have := (List.getElem?_eq_some_iff.1 hx).1
          simp at this
          omega
        subst hi'
        rw [List.getElem?_append_right (Nat.le_refl _)] at hx
        rw [h.hL, List.getElem?_append_right (Nat.le_refl _)] at hy
        simp at hx hy
        subst hx
        subst hy
        refine ⟨b, cb, rfl, fun e => hnd (.inr (.inr (.inl e))), ?_, ?_⟩
        · intro e
          have e5 : g' = b := by simpa [Value.ownBlock] using e
          subst e5
          rcases hg with hg | hg
          · exact hnd (.inr (.inr (.inr (.inl hg))))
          · have := hblt.2
            omega
        · exact Row.chg (Row.chg hnew hc (fun b'' e hf => hnd (by
            have e5 : b = b'' := by simpa [Value.ownBlock] using e
            subst e5
            exact .inr (.inr (.inr (.inl hf)))))) hs (fun b'' e hf => by have := (own_ge hnew e).1; simp at hf; omega) }
end
end Go.Proofs.Qxb6616078a
