/- Tarjan's search over the laid memory: what one step of it leaves. -/
import Derived.Test.Qxb6616078aReach
namespace Go.Proofs.Qxb6616078a.Tj

theorem upd_self (f : Nat → Nat) (k : Nat) : upd f k (f k) = f := by
  funext i
  by_cases h : i = k
  · subst h; simp [upd]
  · simp [upd, h]

/-- One edge more of a vertex on the path counts as followed. -/
theorem Inv.bump {n : Nat} {adj : Nat → List Nat} {ord low nx : Nat → Nat} {segs : List (Nat × List Nat)} {cs : List (List Nat)} {cnt : Nat} (h : Inv n adj ord low nx segs cs cnt) {p : Nat} (hp : ∃ s ∈ segs, s.1 = p) (hlt : nx p < (adj p).length) (ht : ord ((adj p).getD (nx p) 0) ≠ 0)
    (hl : (adj p).getD (nx p) 0 ∈ stk segs → low p ≤ ord ((adj p).getD (nx p) 0)) : Inv n adj ord low (upd nx p (nx p + 1)) segs cs cnt := by
  obtain ⟨s0, hs0, rfl⟩ := hp
  have hns := (List.nodup_append.1 h.nodup).1
  have hfirst : ∀ s ∈ segs, s0.1 ∉ s.2 := by
    intro s hs hm
    have := h.fin s hs s0.1 hm
    omega
  have hpm : s0.1 ∈ stk segs := fst_mem hs0
  have hpo : ord s0.1 ≠ 0 := (h.reached _).1 (List.mem_append_left _ hpm)
  have huniq : ∀ s ∈ segs, s.1 = s0.1 → s = s0 ∨ True := fun _ _ _ => .inr trivial
  exact {
    inr := h.inr
    nodup := h.nodup
    reached := h.reached
    bound := h.bound
    dec := h.dec
    nxle := by
      intro u
      by_cases e : u = s0.1
      · subst e; rw [upd_same]; omega
      · rw [upd_other _ _ e]; exact h.nxle u
    nx0 := by
      intro u hu
      have e : u ≠ s0.1 := fun e => hpo (e ▸ hu)
      rw [upd_other _ _ e]
      exact h.nx0 u hu
    fin := by
      intro s hs u hu
      have e : u ≠ s0.1 := fun e => hfirst s hs (e ▸ hu)
      rw [upd_other _ _ e]
      exact h.fin s hs u hu
    fol := by
      intro u i hi
      by_cases e : u = s0.1
      · subst e
        rw [upd_same] at hi
        by_cases e2 : i = nx s0.1
        · subst e2; exact ht
        · exact h.fol s0.1 i (by omega)
      · rw [upd_other _ _ e] at hi
        exact h.fol u i hi
    down := h.down
    seg := h.seg
    lowS := h.lowS
    cov := by
      intro s hs u hu i hi hm
      by_cases e : u = s0.1
      · subst e
        rw [upd_same] at hi
        by_cases e2 : i = nx s0.1
        · subst e2
          rcases hu with hu | hu
          · exact absurd hu (hfirst s hs)
          · rw [← hu]; exact hl hm
        · exact h.cov s hs s0.1 hu i (by omega) hm
      · rw [upd_other _ _ e] at hi
        exact h.cov s hs u hu i hi hm
    closed := h.closed
    scc := h.scc }

theorem Inv.low_le {n : Nat} {adj : Nat → List Nat} {ord low nx : Nat → Nat} {segs : List (Nat × List Nat)} {cs : List (List Nat)} {cnt : Nat} (h : Inv n adj ord low nx segs cs cnt) {s : Nat × List Nat} (hs : s ∈ segs) : low s.1 ≤ cnt := Nat.le_trans (h.lowS s hs).1 (h.bound _)

/-- An edge of the top vertex leads to one not yet reached: it is followed, and that one is the new top. -/
theorem Inv.descend {n : Nat} {adj : Nat → List Nat} {ord low nx : Nat → Nat} {p : Nat} {r : List Nat} {rest : List (Nat × List Nat)} {cs : List (List Nat)} {cnt : Nat} (h : Inv n adj ord low nx ((p, r) :: rest) cs cnt) (hi : nx p < (adj p).length) (t : Nat) (ht : t = (adj p).getD (nx p) 0) (htn : t < n) (h0 : ord t = 0) :
    Inv n adj (upd ord t (cnt + 1)) (upd low t (cnt + 1)) (upd nx p (nx p + 1)) ((t, []) :: (p, r) :: rest) cs (cnt + 1) := by
  have hmem : t ∈ adj p := by
    rw [ht, List.getD_eq_getElem?_getD, List.getElem?_eq_getElem hi]
    exact List.getElem_mem hi
  have hpo : ord p ≠ 0 := (h.reached p).1 (List.mem_append_left _ (by simp [stk]))
  have hne : p ≠ t := fun e => hpo (e ▸ h0)
  have hr : ∀ s ∈ (p, r) :: rest, Reach adj s.1 t := by
    intro s hs
    rcases List.mem_cons.1 hs with rfl | hs
    · exact Reach.edge hmem
    · exact ((List.pairwise_cons.1 h.down).1 s hs).trans (Reach.edge hmem)
  have h1 := h.push t htn h0 hr
  refine h1.bump ⟨(p, r), by simp, rfl⟩ hi ?_ ?_
  · rw [← ht, upd_same]; omega
  · intro _
    rw [← ht, upd_same, upd_other _ _ hne]
    have := h.low_le (s := (p, r)) (by simp)
    have h' : low p ≤ cnt := this
    omega

/-- How many edges are yet to follow. -/
def left (n : Nat) (adj : Nat → List Nat) (nx : Nat → Nat) : Nat := ((List.range n).map fun v => (adj v).length - nx v).sum

theorem sum_upd (f g : Nat → Nat) (p : Nat) (hp : ∀ v, v ≠ p → f v = g v) (h1 : f p = g p + 1) : ∀ l : List Nat, l.Nodup → (l.map f).sum = (l.map g).sum + if p ∈ l then 1 else 0
  | [], _ => by simp
  | x :: l, hn => by
    have ih := sum_upd f g p hp h1 l (List.nodup_cons.1 hn).2
    have hx := (List.nodup_cons.1 hn).1
    by_cases e : x = p
    · subst e
      simp [ih, h1, hx]
      omega
    · have e' : ¬ p = x := fun h => e h.symm
      simp [ih, hp x e, e']
      omega

theorem left_upd {n : Nat} {adj : Nat → List Nat} {nx : Nat → Nat} {p : Nat} (hp : p < n) (hlt : nx p < (adj p).length) : left n adj nx = left n adj (upd nx p (nx p + 1)) + 1 := by
  have := sum_upd (fun v => (adj v).length - nx v) (fun v => (adj v).length - upd nx p (nx p + 1) v) p (fun v hv => by simp [upd_other _ _ hv]) (by simp [upd_same]; omega) (List.range n) List.nodup_range
  unfold left
  rw [this]
  simp [hp]

theorem length_le_of_nodup : ∀ (n : Nat) (l : List Nat), l.Nodup → (∀ v ∈ l, v < n) → l.length ≤ n
  | 0, l, _, h => by
    cases l with
    | nil => simp
    | cons x l => exact absurd (h x (by simp)) (by omega)
  | n + 1, l, hn, h => by
    have h1 : (l.erase n).length ≤ n := length_le_of_nodup n (l.erase n) (hn.erase n) (by
      intro v hv
      have hv' := (List.Nodup.mem_erase_iff hn).1 hv
      have := h v hv'.2
      have := hv'.1
      omega)
    by_cases hm : n ∈ l
    · have := List.length_erase_of_mem hm
      omega
    · rw [List.erase_of_not_mem hm] at h1
      omega

theorem Inv.stk_len {n : Nat} {adj : Nat → List Nat} {ord low nx : Nat → Nat} {segs : List (Nat × List Nat)} {cs : List (List Nat)} {cnt : Nat} (h : Inv n adj ord low nx segs cs cnt) : (stk segs).length ≤ n :=
  length_le_of_nodup n _ (List.nodup_append.1 h.nodup).1 (fun v hv => h.inr v ((h.reached v).1 (List.mem_append_left _ hv)))
theorem segs_len : ∀ segs : List (Nat × List Nat), segs.length ≤ (stk segs).length
  | [] => by simp
  | s :: r => by have := segs_len r; simp [stk]; omega

end Go.Proofs.Qxb6616078a.Tj
namespace Go.Proofs.Qxb6616078a
open Go.RowKit Tj

def Adj.adj (A : Adj) (v : Nat) : List Nat := (List.range (A.st (v + 1) - A.st v)).map fun i => A.li (A.st v + i)
theorem Adj.adj_length (A : Adj) (v : Nat) : (A.adj v).length = A.st (v + 1) - A.st v := by simp [Adj.adj]
theorem Adj.adj_at (A : Adj) (v i : Nat) (h : i < (A.adj v).length) : (A.adj v).getD i 0 = A.li (A.st v + i) := by
  rw [Adj.adj_length] at h
  simp [Adj.adj, List.getD_eq_getElem?_getD, h]

/-- What is asked of the numbers laid. -/
structure Adj.Ok (A : Adj) : Prop where
  mono : ∀ v, v < A.n → A.st v ≤ A.st (v + 1)
  top : ∀ v, v ≤ A.n → A.st v ≤ A.st A.n
  li : ∀ j, j < A.st A.n → A.li j < A.n

/-- What the caller's own function keeps: FS, in the blocks D, for the components found so far. -/
structure Keeper (N0 n : Nat) (FS : World → (Nat → Prop) → List (List Nat) → Prop) (fargs : Value × Value × Value) : Prop where
  stab : ∀ {w w' D acc G}, FS w D acc → Chg G w w' → (∀ b, G b → N0 ≤ b ∧ ¬ D b) → FS w' D acc
  lt : ∀ {w D acc b}, FS w D acc → D b → b < w.heap.size ∧ N0 ≤ b
  found : ∀ (w : World) (D : Nat → Prop) (acc : List (List Nat)) (g i m c : Nat) (ms : List Nat), FS w D acc → ms.length = m → 1 ≤ m → m ≤ 1048576 → (∀ j x, ms[j]? = some x → w.cell? ⟨g, i + j, none⟩ = some (.int .i64 (x : Nat))) → ¬ D g → N0 ≤ g → (∀ x ∈ ms, x < n) → (acc ++ [ms]).flatten.Nodup →
    Calls Try.prog 41 #[.slice (some ⟨g, i, none⟩) m c, fargs.1, fargs.2.1, fargs.2.2] w fun e w' => e = .returned (.tuple #[]) ∧ ∃ D', FS w' D' (acc ++ [ms]) ∧ Chg D w w' ∧ ∀ b, D' b → D b ∨ w.heap.size ≤ b

structure Run (A : Adj) (N0 : Nat) (FS : World → (Nat → Prop) → List (List Nat) → Prop) (W : World) (D0 : Nat → Prop) (w : World) (D : Nat → Prop) (cs : List (List Nat)) (ord low nx nxt : Nat → Nat) (on : Nat → Bool) (segs : List (Nat × List Nat)) (cnt : Nat) (vp vs : Value) : Prop where
  inv : Inv A.n A.adj ord low nx segs cs cnt
  st : St A W.heap.size w ord low nxt on (segs.map Prod.fst).reverse (stk segs).reverse cnt vp vs
  nxtE : ∀ v, ord v ≠ 0 → nxt v = A.st v + nx v
  onE : ∀ v, on v = true ↔ v ∈ stk segs
  fs : FS w D cs
  ap : ∀ k, D k → ¬ Foot W.heap.size vp vs k
  adj : A.At w N0
  chg : Chg D0 W w
  dom : ∀ k, D k → D0 k ∨ W.heap.size ≤ k
  n0 : N0 ≤ W.heap.size
  cntE : cnt = (stk segs).length + cs.flatten.length

section
variable {A : Adj} {N0 : Nat} {FS : World → (Nat → Prop) → List (List Nat) → Prop} {fargs : Value × Value × Value} {W : World} {D0 : Nat → Prop} {w : World} {D : Nat → Prop} {cs : List (List Nat)} {ord low nx nxt : Nat → Nat} {on : Nat → Bool} {segs : List (Nat × List Nat)} {cnt : Nat} {vp vs : Value}

theorem Run.keep (R : Run A N0 FS W D0 w D cs ord low nx nxt on segs cnt vp vs) (K : Keeper N0 A.n FS fargs) {w' : World} (hc : Chg (Foot W.heap.size vp vs) w w') : FS w' D cs ∧ A.At w' N0 ∧ Chg D0 W w' :=
  ⟨K.stab R.fs hc (fun k hk => ⟨Nat.le_trans R.n0 (R.st.foot_ge hk), fun hd => R.ap k hd hk⟩), R.adj.chg hc (fun _ hk => Nat.le_trans R.n0 (R.st.foot_ge hk)), R.chg.trans hc (fun _ hk => .inr (R.st.foot_ge hk))⟩

theorem Run.drew (R : Run A N0 FS W D0 w D cs ord low nx nxt on segs cnt vp vs) (K : Keeper N0 A.n FS fargs) : Run A N0 FS W D0 w.drew D cs ord low nx nxt on segs cnt vp vs := by
  obtain ⟨h1, h2, h3⟩ := R.keep K (Chg.drew _ w)
  exact ⟨R.inv, R.st.chg (Chg.drew (fun _ => False) _) (fun _ h => h.elim), R.nxtE, R.onE, h1, R.ap, h2, h3, R.dom, R.n0, R.cntE⟩

theorem Run.lens (R : Run A N0 FS W D0 w D cs ord low nx nxt on segs cnt vp vs) : (segs.map Prod.fst).reverse.length ≤ A.n ∧ (stk segs).reverse.length ≤ A.n ∧ cnt ≤ A.n := by
  have h1 := R.inv.stk_len
  have h2 := segs_len segs
  have h3 := length_le_of_nodup A.n _ R.inv.nodup (fun v hv => R.inv.inr v ((R.inv.reached v).1 hv))
  have h4 := R.cntE
  rw [List.length_append] at h3
  simp
  omega

/-- An edge followed to a vertex that no longer counts. -/
theorem Run.seen {p : Nat} {r : List Nat} {rest : List (Nat × List Nat)} (R : Run A N0 FS W D0 w D cs ord low nx nxt on ((p, r) :: rest) cnt vp vs) (K : Keeper N0 A.n FS fargs) (hi : nx p < (A.adj p).length) (t : Nat) (ht : t = (A.adj p).getD (nx p) 0) (h0 : ord t ≠ 0) (hon : on t = false) :
    Run A N0 FS W D0 (w.setCell ⟨W.heap.size + 5, p, none⟩ (.int .i64 (nxt p + 1 : Nat))) D cs ord low (upd nx p (nx p + 1)) (upd nxt p (nxt p + 1)) on ((p, r) :: rest) cnt vp vs := by
  obtain ⟨h1, h2, h3⟩ := R.keep K ((Chg.setCell w ⟨W.heap.size + 5, p, none⟩ (.int .i64 (nxt p + 1 : Nat))).mono (foot_in (by omega)))
  have hpo : ord p ≠ 0 := (R.inv.reached p).1 (List.mem_append_left _ (by simp [stk]))
  refine ⟨?_, R.st.setNxt p (nxt p + 1), ?_, R.onE, h1, R.ap, h2, h3, R.dom, R.n0, R.cntE⟩
  · have := R.inv.follow hi (ht ▸ h0) (low p) (by
      rw [if_neg]
      rw [← ht]
      intro hm
      rw [(R.onE t).2 hm] at hon
      cases hon)
    rwa [upd_self] at this
  · intro v hv
    by_cases e : v = p
    · subst e; rw [upd_same, upd_same, R.nxtE v hv]; omega
    · rw [upd_other _ _ e, upd_other _ _ e, R.nxtE v hv]

/-- An edge followed to a vertex on the stack. -/
theorem Run.back {p : Nat} {r : List Nat} {rest : List (Nat × List Nat)} (R : Run A N0 FS W D0 w D cs ord low nx nxt on ((p, r) :: rest) cnt vp vs) (K : Keeper N0 A.n FS fargs) (hi : nx p < (A.adj p).length) (t : Nat) (ht : t = (A.adj p).getD (nx p) 0) (h0 : ord t ≠ 0) (hon : on t = true) (lw : Nat) (hlw : lw = min (low p) (ord t)) :
    Run A N0 FS W D0 ((w.setCell ⟨W.heap.size + 5, p, none⟩ (.int .i64 (nxt p + 1 : Nat))).setCell ⟨W.heap.size + 3, p, none⟩ (.int .i64 lw)) D cs ord (upd low p lw) (upd nx p (nx p + 1)) (upd nxt p (nxt p + 1)) on ((p, r) :: rest) cnt vp vs := by
  obtain ⟨h1, h2, h3⟩ := R.keep K (((Chg.setCell w ⟨W.heap.size + 5, p, none⟩ (.int .i64 (nxt p + 1 : Nat))).mono (foot_in (by omega))).trans (Chg.setCell _ ⟨W.heap.size + 3, p, none⟩ (.int .i64 lw)) (foot_in (by omega)))
  have hpo : ord p ≠ 0 := (R.inv.reached p).1 (List.mem_append_left _ (by simp [stk]))
  refine ⟨?_, (R.st.setNxt p (nxt p + 1)).setLow p lw, ?_, R.onE, h1, R.ap, h2, h3, R.dom, R.n0, R.cntE⟩
  · refine R.inv.follow hi (ht ▸ h0) lw ?_
    rw [if_pos, ← ht]
    · exact hlw
    · rw [← ht]; exact (R.onE t).1 hon
  · intro v hv
    by_cases e : v = p
    · subst e; rw [upd_same, upd_same, R.nxtE v hv]; omega
    · rw [upd_other _ _ e, upd_other _ _ e, R.nxtE v hv]

/-- An edge followed to a vertex not yet reached. -/
theorem Run.descend {p : Nat} {r : List Nat} {rest : List (Nat × List Nat)} (R : Run A N0 FS W D0 w D cs ord low nx nxt on ((p, r) :: rest) cnt vp vs) (K : Keeper N0 A.n FS fargs) (hi : nx p < (A.adj p).length) (t : Nat) (ht : t = (A.adj p).getD (nx p) 0) (htn : t < A.n) (h0 : ord t = 0) {w' : World} {vp' vs' : Value}
    (hs : St A W.heap.size w' (upd ord t (cnt + 1)) (upd low t (cnt + 1)) (upd (upd nxt p (nxt p + 1)) t (A.st t)) (updB on t true) ((((p, r) :: rest).map Prod.fst).reverse ++ [t]) ((stk ((p, r) :: rest)).reverse ++ [t]) (cnt + 1) vp' vs') (hc : Chg (Foot W.heap.size vp vs) w w') (hf : ∀ k, Foot W.heap.size vp' vs' k → Foot W.heap.size vp vs k ∨ w.heap.size ≤ k) :
    Run A N0 FS W D0 w' D cs (upd ord t (cnt + 1)) (upd low t (cnt + 1)) (upd nx p (nx p + 1)) (upd (upd nxt p (nxt p + 1)) t (A.st t)) (updB on t true) ((t, []) :: (p, r) :: rest) (cnt + 1) vp' vs' := by
  obtain ⟨h1, h2, h3⟩ := R.keep K hc
  have hpo : ord p ≠ 0 := (R.inv.reached p).1 (List.mem_append_left _ (by simp [stk]))
  have hne : t ≠ p := fun e => hpo (e ▸ h0)
  refine ⟨R.inv.descend hi t ht htn h0, ?_, ?_, ?_, h1, ?_, h2, h3, R.dom, R.n0, ?_⟩
  · simpa [stk] using hs
  · intro v hv
    by_cases e : v = t
    · subst e
      rw [upd_same, upd_other _ _ hne, R.inv.nx0 v h0]
      rfl
    · rw [upd_other _ _ e] at hv
      rw [upd_other _ _ e]
      by_cases e : v = p
      · subst e; rw [upd_same, upd_same, R.nxtE v hv]; omega
      · rw [upd_other _ _ e, upd_other _ _ e, R.nxtE v hv]
  · intro v
    have := R.onE v
    unfold updB
    by_cases e : v = t
    · subst e; simp [stk]
    · simp only [if_neg e, this]
      simp [stk, e]
  · intro k hd hk
    rcases hf k hk with h | h
    · exact R.ap k hd h
    · have := (K.lt R.fs hd).1
      omega
  · have := R.cntE
    simp [stk] at this ⊢
    omega

/-- The search begins at a vertex not yet reached. -/
theorem Run.begin (R : Run A N0 FS W D0 w D cs ord low nx nxt on [] cnt vp vs) (K : Keeper N0 A.n FS fargs) (t : Nat) (htn : t < A.n) (h0 : ord t = 0) {w' : World} {vp' vs' : Value}
    (hs : St A W.heap.size w' (upd ord t (cnt + 1)) (upd low t (cnt + 1)) (upd nxt t (A.st t)) (updB on t true) ([] ++ [t]) ([] ++ [t]) (cnt + 1) vp' vs') (hc : Chg (Foot W.heap.size vp vs) w w') (hf : ∀ k, Foot W.heap.size vp' vs' k → Foot W.heap.size vp vs k ∨ w.heap.size ≤ k) :
    Run A N0 FS W D0 w' D cs (upd ord t (cnt + 1)) (upd low t (cnt + 1)) nx (upd nxt t (A.st t)) (updB on t true) [(t, [])] (cnt + 1) vp' vs' := by
  obtain ⟨h1, h2, h3⟩ := R.keep K hc
  refine ⟨R.inv.push t htn h0 (by simp), ?_, ?_, ?_, h1, ?_, h2, h3, R.dom, R.n0, ?_⟩
  · simpa [stk] using hs
  · intro v hv
    by_cases e : v = t
    · subst e
      rw [upd_same, R.inv.nx0 v h0]
      rfl
    · rw [upd_other _ _ e] at hv
      rw [upd_other _ _ e, R.nxtE v hv]
  · intro v
    have := R.onE v
    unfold updB
    by_cases e : v = t
    · subst e; simp [stk]
    · simp only [if_neg e, this]
      simp [stk, e]
  · intro k hd hk
    rcases hf k hk with h | h
    · exact R.ap k hd h
    · have := (K.lt R.fs hd).1
      omega
  · have := R.cntE
    simp [stk] at this ⊢
    omega

theorem St.popPath {path stack : List Nat} {p gp cp : Nat} (h : St A W.heap.size w ord low nxt on (path ++ [p]) stack cnt (.slice (some ⟨gp, 0, none⟩) (path.length + 1) cp) vs) : St A W.heap.size (w.setCell ⟨W.heap.size + 9, 0, none⟩ (.slice (some ⟨gp, 0, none⟩) path.length cp)) ord low nxt on path stack cnt (.slice (some ⟨gp, 0, none⟩) path.length cp) vs := by
  refine h.setPath ?_ (fun g hg => h.ap g hg)
  have h1 := h.pR
  rw [List.length_append] at h1
  have := Row.cut h1 (m := path.length) (by simp)
  rw [nums_snoc, List.take_left' (nums_length _)] at this
  exact this

theorem St.cutStack {path stack more : List Nat} {gs cs : Nat} (h : St A W.heap.size w ord low nxt on path (stack ++ more) cnt vp (.slice (some ⟨gs, 0, none⟩) (stack ++ more).length cs)) : St A W.heap.size (w.setCell ⟨W.heap.size + 10, 0, none⟩ (.slice (some ⟨gs, 0, none⟩) stack.length cs)) ord low nxt on path stack cnt vp (.slice (some ⟨gs, 0, none⟩) stack.length cs) := by
  refine h.setStack ?_ (fun g hg => h.ap g hg)
  have h1 := h.kR
  have := Row.cut h1 (m := stack.length) (by simp)
  have e : nums (stack ++ more) = nums stack ++ nums more := by simp [nums]
  rw [e, List.take_left' (nums_length _)] at this
  exact this

/-- Back to the vertex the search came from, which low now binds. -/
theorem Run.merge {p q gp cp : Nat} {r t : List Nat} {rest : List (Nat × List Nat)} (R : Run A N0 FS W D0 w D cs ord low nx nxt on ((p, r) :: (q, t) :: rest) cnt (.slice (some ⟨gp, 0, none⟩) (rest.length + 2) cp) vs) (K : Keeper N0 A.n FS fargs) (hf : nx p = (A.adj p).length) (hlow : low p ≠ ord p) (lw : Nat) (hlw : lw = min (low q) (low p)) :
    Run A N0 FS W D0 ((w.setCell ⟨W.heap.size + 9, 0, none⟩ (.slice (some ⟨gp, 0, none⟩) (rest.length + 1) cp)).setCell ⟨W.heap.size + 3, q, none⟩ (.int .i64 lw)) D cs ord (upd low q lw) nx nxt on ((q, r ++ p :: t) :: rest) cnt (.slice (some ⟨gp, 0, none⟩) (rest.length + 1) cp) vs := by
  obtain ⟨h1, h2, h3⟩ := R.keep K (((Chg.setCell w ⟨W.heap.size + 9, 0, none⟩ (.slice (some ⟨gp, 0, none⟩) (rest.length + 1) cp)).mono (foot_in (by omega))).trans (Chg.setCell _ ⟨W.heap.size + 3, q, none⟩ (.int .i64 lw)) (foot_in (by omega)))
  have hst : stk ((q, r ++ p :: t) :: rest) = stk ((p, r) :: (q, t) :: rest) := by simp [stk]
  have h := R.st
  have e1 : (((p, r) :: (q, t) :: rest).map Prod.fst).reverse = (rest.map Prod.fst).reverse ++ [q] ++ [p] := by simp
  have e2 : (((q, r ++ p :: t) :: rest).map Prod.fst).reverse = (rest.map Prod.fst).reverse ++ [q] := by simp
  rw [e1] at h
  have el : ((rest.map Prod.fst).reverse ++ [q]).length = rest.length + 1 := by simp
  have h' := St.popPath (path := (rest.map Prod.fst).reverse ++ [q]) (p := p) (gp := gp) (cp := cp) (by rw [el]; exact h)
  rw [el] at h'
  refine ⟨R.inv.merge hf hlow lw hlw, ?_, R.nxtE, ?_, h1, R.ap, h2, h3, R.dom, R.n0, ?_⟩
  · rw [e2, hst]
    exact h'.setLow q lw
  · intro v; rw [hst]; exact R.onE v
  · rw [hst]; exact R.cntE

/-- A component is found and handed on. -/
theorem Run.emit {p : Nat} {r : List Nat} {rest : List (Nat × List Nat)} (R : Run A N0 FS W D0 w D cs ord low nx nxt on ((p, r) :: rest) cnt vp vs) (K : Keeper N0 A.n FS fargs) (hf : nx p = (A.adj p).length) (hlow : low p = ord p) {w4 w5 : World} {vp' vs' : Value} {on' : Nat → Bool} {D' : Nat → Prop} (hvp : vp'.ownBlock = vp.ownBlock) (hvs : vs'.ownBlock = vs.ownBlock)
    (hc4 : Chg (Foot W.heap.size vp vs) w w4) (hs4 : St A W.heap.size w4 ord low nxt on' (rest.map Prod.fst).reverse (stk rest).reverse cnt vp' vs') (hon : ∀ v, on' v = true ↔ v ∈ stk ((p, r) :: rest) ∧ v ∉ p :: r.reverse) (hfs : FS w5 D' (cs ++ [p :: r.reverse])) (hc5 : Chg D w4 w5) (hD' : ∀ k, D' k → D k ∨ w4.heap.size ≤ k) :
    Run A N0 FS W D0 w5 D' (cs ++ [p :: r.reverse]) ord low nx nxt on' rest cnt vp' vs' := by
  obtain ⟨h1, h2, h3⟩ := R.keep K hc4
  have hperm : (p :: r.reverse).Perm (r ++ [p]) := by
    refine List.Perm.trans ?_ (List.perm_append_comm (l₁ := [p]) (l₂ := r))
    exact (List.reverse_perm r).cons p
  have hfe : ∀ k, Foot W.heap.size vp' vs' k ↔ Foot W.heap.size vp vs k := by
    intro k
    unfold Foot
    rw [hvp, hvs]
  refine ⟨R.inv.emit hf hlow _ hperm, hs4.chg hc5 (fun k hd hk => R.ap k hd ((hfe k).1 hk)), R.nxtE, ?_, hfs, ?_, h2.chg hc5 (fun k hd => (K.lt R.fs hd).2), h3.trans hc5 (fun k hd => R.dom k hd), ?_, R.n0, ?_⟩
  · intro v
    rw [hon v]
    have hn := (List.nodup_append.1 R.inv.nodup).1
    simp only [stk] at hn ⊢
    constructor
    · rintro ⟨ha, hb⟩
      simp at ha hb
      rcases ha with ha | ha | ha
      · exact absurd ha hb.2
      · exact absurd ha hb.1
      · exact ha
    · intro hv
      refine ⟨by simp [hv], ?_⟩
      intro hm
      simp at hm
      rcases hm with hm | hm
      · subst hm
        exact (List.nodup_cons.1 (List.nodup_append.1 hn).2.1).1 hv
      · exact (List.nodup_append.1 hn).2.2 v hm v (List.mem_cons_of_mem _ hv) rfl
  · intro k hd hk
    have hk' := (hfe k).1 hk
    rcases hD' k hd with h | h
    · exact R.ap k h hk'
    · have := hc4.size
      rcases hk' with hk' | hk' | hk'
      · have := R.st.rB.lt
        omega
      · have := R.st.plt hk'
        omega
      · have := R.st.klt hk'
        omega
  · intro k hd
    rcases hD' k hd with h | h
    · exact R.dom k h
    · right
      have := h3.size
      omega
  · have := R.cntE
    simp [stk] at this ⊢
    omega

end
end Go.Proofs.Qxb6616078a
