/-
  Tarjan's search for strongly connected components, plainly: what the search knows at every step, and that each step keeps it. Nothing of the program is in sight here.
  The stack is told as segments, the top one first: a vertex of the path and the finished vertices above it on the stack.
-/
namespace Go.Proofs.Qxb6616078a.Tj

/-- From u along l to v. -/
def walk (adj : Nat → List Nat) : Nat → List Nat → Nat → Prop
  | u, [], v => u = v
  | u, x :: l, v => x ∈ adj u ∧ walk adj x l v

def Reach (adj : Nat → List Nat) (u v : Nat) : Prop := ∃ l, walk adj u l v

theorem walk_append {adj : Nat → List Nat} : ∀ (l : List Nat) (u v : Nat) (m : List Nat) (x : Nat), walk adj u l v → walk adj v m x → walk adj u (l ++ m) x
  | [], u, v, m, x, h, k => by
    have e : u = v := h
    subst e
    exact k
  | y :: l, u, v, m, x, h, k => ⟨h.1, walk_append l y v m x h.2 k⟩

theorem Reach.refl (adj : Nat → List Nat) (u : Nat) : Reach adj u u := ⟨[], rfl⟩
theorem Reach.trans {adj : Nat → List Nat} {u v x : Nat} (h : Reach adj u v) (k : Reach adj v x) : Reach adj u x := by
  obtain ⟨l, h⟩ := h
  obtain ⟨m, k⟩ := k
  exact ⟨l ++ m, walk_append l u v m x h k⟩
theorem Reach.edge {adj : Nat → List Nat} {u v : Nat} (h : v ∈ adj u) : Reach adj u v := ⟨[v], h, rfl⟩

/-- A set that no edge leaves is not left by any walk. -/
theorem Reach.closed {adj : Nat → List Nat} {C : Nat → Prop} (hc : ∀ u, C u → ∀ v ∈ adj u, C v) {u v : Nat} (hu : C u) (h : Reach adj u v) : C v := by
  obtain ⟨l, h⟩ := h
  induction l generalizing u with
  | nil => have e : u = v := h; exact e ▸ hu
  | cons x l ih => exact ih (hc u hu x h.1) h.2

/-- The stack, its top first. -/
def stk : List (Nat × List Nat) → List Nat
  | [] => []
  | s :: r => s.2 ++ s.1 :: stk r

/-- What the search knows. ord: the number under which a vertex was reached (0: not yet); low; nx: how many edges of a vertex have been followed; cs: the components found. -/
structure Inv (n : Nat) (adj : Nat → List Nat) (ord low nx : Nat → Nat) (segs : List (Nat × List Nat)) (cs : List (List Nat)) (cnt : Nat) : Prop where
  inr : ∀ v, ord v ≠ 0 → v < n
  nodup : (stk segs ++ cs.flatten).Nodup
  reached : ∀ v, v ∈ stk segs ++ cs.flatten ↔ ord v ≠ 0
  bound : ∀ v, ord v ≤ cnt
  dec : (stk segs).Pairwise (fun a b => ord b < ord a)
  nxle : ∀ u, nx u ≤ (adj u).length
  nx0 : ∀ u, ord u = 0 → nx u = 0
  fin : ∀ s ∈ segs, ∀ u ∈ s.2, nx u = (adj u).length
  fol : ∀ u, ∀ i, i < nx u → ord ((adj u).getD i 0) ≠ 0
  down : segs.Pairwise (fun s t => Reach adj t.1 s.1)
  seg : ∀ s ∈ segs, ∀ u ∈ s.2, Reach adj s.1 u ∧ Reach adj u s.1
  lowS : ∀ s ∈ segs, low s.1 ≤ ord s.1 ∧ ∃ x ∈ stk segs, ord x = low s.1 ∧ Reach adj s.1 x
  cov : ∀ s ∈ segs, ∀ u, (u ∈ s.2 ∨ u = s.1) → ∀ i, i < nx u → (adj u).getD i 0 ∈ stk segs → low s.1 ≤ ord ((adj u).getD i 0)
  closed : ∀ u ∈ cs.flatten, ∀ w ∈ adj u, w ∈ cs.flatten
  scc : ∀ c ∈ cs, (∀ u ∈ c, ∀ v ∈ c, Reach adj u v) ∧ ∀ u ∈ c, ∀ v, Reach adj u v → Reach adj v u → v ∈ c

def upd (f : Nat → Nat) (k x : Nat) : Nat → Nat := fun i => if i = k then x else f i

theorem upd_same (f : Nat → Nat) (k x : Nat) : upd f k x k = x := by simp [upd]
theorem upd_other (f : Nat → Nat) {k i : Nat} (x : Nat) (h : i ≠ k) : upd f k x i = f i := by simp [upd, h]

/-- At the start. -/
theorem inv_start (n : Nat) (adj : Nat → List Nat) : Inv n adj (fun _ => 0) (fun _ => 0) (fun _ => 0) [] [] 0 where
  inr v h := absurd rfl h
  nodup := by simp [stk]
  reached v := by simp [stk]
  bound v := Nat.le_refl _
  dec := by simp [stk]
  nxle u := Nat.zero_le _
  nx0 u h := rfl
  fin s h := by simp at h
  fol u i h := absurd h (Nat.not_lt_zero _)
  down := List.Pairwise.nil
  seg s h := by simp at h
  lowS s h := by simp at h
  cov s h := by simp at h
  closed u h := by simp at h
  scc c h := by simp at h

section
variable {n : Nat} {adj : Nat → List Nat} {ord low nx : Nat → Nat} {segs : List (Nat × List Nat)} {cs : List (List Nat)} {cnt : Nat}

/-- A vertex w is reached: by a root's turn (no segment), or along the edge that the top vertex follows next. 'nx' is as it is behind that edge's turn. -/
theorem Inv.push (h : Inv n adj ord low nx segs cs cnt) (w : Nat) (hw : w < n) (h0 : ord w = 0) (hr : ∀ s ∈ segs, Reach adj s.1 w) :
    Inv n adj (upd ord w (cnt + 1)) (upd low w (cnt + 1)) nx ((w, []) :: segs) cs (cnt + 1) := by
  have hnm : w ∉ stk segs ++ cs.flatten := fun hm => (h.reached w).1 hm h0
  have hns : w ∉ stk segs := fun hm => hnm (List.mem_append_left _ hm)
  have hst : stk ((w, []) :: segs) = w :: stk segs := by simp [stk]
  have hne : ∀ v, v ∈ stk segs → v ≠ w := fun v hv e => hns (e ▸ hv)
  have hps : ∀ s ∈ segs, s.1 ∈ stk segs := by
    intro s hs
    clear h hr hnm hns hne hst
    induction segs with
    | nil => simp at hs
    | cons t r ih =>
      rcases List.mem_cons.1 hs with rfl | hs
      · simp [stk]
      · simp [stk, ih hs]
  have hord : ∀ v, v ≠ w → upd ord w (cnt + 1) v = ord v := fun v hv => upd_other ord _ hv
  refine ⟨?_, ?_, ?_, ?_, ?_, h.nxle, ?_, ?_, ?_, ?_, ?_, ?_, ?_, h.closed, h.scc⟩
  · intro v hv
    by_cases e : v = w
    · exact e ▸ hw
    · rw [hord v e] at hv; exact h.inr v hv
  · rw [hst]
    exact List.nodup_cons.2 ⟨hnm, h.nodup⟩
  · intro v
    rw [hst]
    by_cases e : v = w
    · subst e
      simp [upd_same]
    · rw [hord v e, ← h.reached v]
      simp [e]
  · intro v
    by_cases e : v = w
    · subst e; rw [upd_same]; exact Nat.le_refl _
    · rw [hord v e]; exact Nat.le_succ_of_le (h.bound v)
  · rw [hst]
    refine List.pairwise_cons.2 ⟨fun b hb => ?_, ?_⟩
    · rw [hord b (hne b hb), upd_same]
      exact Nat.lt_succ_of_le (h.bound b)
    · refine h.dec.imp_of_mem fun {a b} ha hb hab => ?_
      rw [hord a (hne a ha), hord b (hne b hb)]
      exact hab
  · intro u hu
    by_cases e : u = w
    · subst e; rw [upd_same] at hu; omega
    · rw [hord u e] at hu; exact h.nx0 u hu
  · intro s hs u hu
    rcases List.mem_cons.1 hs with rfl | hs
    · simp at hu
    · exact h.fin s hs u hu
  · intro u i hi
    by_cases e : (adj u).getD i 0 = w
    · rw [e, upd_same]; omega
    · rw [hord _ e]; exact h.fol u i hi
  · exact List.pairwise_cons.2 ⟨fun t ht => hr t ht, h.down⟩
  · intro s hs u hu
    rcases List.mem_cons.1 hs with rfl | hs
    · simp at hu
    · exact h.seg s hs u hu
  · intro s hs
    rw [hst]
    rcases List.mem_cons.1 hs with rfl | hs
    · refine ⟨?_, w, by simp, ?_, Reach.refl _ _⟩
      · show upd low w (cnt + 1) w ≤ upd ord w (cnt + 1) w
        rw [upd_same, upd_same]; exact Nat.le_refl _
      · show upd ord w (cnt + 1) w = upd low w (cnt + 1) w
        rw [upd_same, upd_same]
    · obtain ⟨h1, x, hx, h2, h3⟩ := h.lowS s hs
      have e := hne s.1 (hps s hs)
      rw [upd_other low _ e, hord s.1 e]
      exact ⟨h1, x, List.mem_cons_of_mem _ hx, by rw [hord x (hne x hx)]; exact h2, h3⟩
  · intro s hs u hu i hi hm
    rcases List.mem_cons.1 hs with rfl | hs
    · rcases hu with hu | hu
      · simp at hu
      · have e : u = w := hu
        rw [e, h.nx0 w h0] at hi
        exact absurd hi (Nat.not_lt_zero _)
    · rw [upd_other low _ (hne s.1 (hps s hs))]
      by_cases e : (adj u).getD i 0 = w
      · exact absurd h0 (e ▸ h.fol u i hi)
      · rw [hst] at hm
        rw [hord _ e]
        exact h.cov s hs u hu i hi ((List.mem_cons.1 hm).resolve_left e)

theorem fst_mem {segs : List (Nat × List Nat)} {s : Nat × List Nat} (hs : s ∈ segs) : s.1 ∈ stk segs := by
  induction segs with
  | nil => simp at hs
  | cons t r ih =>
    rcases List.mem_cons.1 hs with rfl | hs
    · simp [stk]
    · simp [stk, ih hs]

theorem snd_mem {segs : List (Nat × List Nat)} {s : Nat × List Nat} (hs : s ∈ segs) {u : Nat} (hu : u ∈ s.2) : u ∈ stk segs := by
  induction segs with
  | nil => simp at hs
  | cons t r ih =>
    rcases List.mem_cons.1 hs with rfl | hs
    · simp [stk, hu]
    · simp [stk, ih hs]

theorem mem_stk {segs : List (Nat × List Nat)} {u : Nat} (h : u ∈ stk segs) : ∃ s ∈ segs, u ∈ s.2 ∨ u = s.1 := by
  induction segs with
  | nil => simp [stk] at h
  | cons t r ih =>
    simp only [stk, List.mem_append, List.mem_cons] at h
    rcases h with h | h | h
    · exact ⟨t, by simp, .inl h⟩
    · exact ⟨t, by simp, .inr h⟩
    · obtain ⟨s, hs, h⟩ := ih h
      exact ⟨s, by simp [hs], h⟩

/-- An edge of the top vertex is followed to a vertex already reached; low is lowered if that one is on the stack. -/
theorem Inv.follow {p : Nat} {r : List Nat} {rest : List (Nat × List Nat)} (h : Inv n adj ord low nx ((p, r) :: rest) cs cnt) (hi : nx p < (adj p).length) (hw : ord ((adj p).getD (nx p) 0) ≠ 0) (lw : Nat)
    (hl : lw = if (adj p).getD (nx p) 0 ∈ stk ((p, r) :: rest) then min (low p) (ord ((adj p).getD (nx p) 0)) else low p) :
    Inv n adj ord (upd low p lw) (upd nx p (nx p + 1)) ((p, r) :: rest) cs cnt := by
  have hnd := h.nodup
  have hpr : p ∉ r := by
    intro hm
    have := (List.nodup_append.1 h.nodup).1
    simp only [stk] at this
    exact (List.nodup_append.1 this).2.2 p hm p (by simp) rfl
  have hprest : ∀ s ∈ rest, s.1 ≠ p ∧ p ∉ s.2 := by
    intro s hs
    have h1 := (List.nodup_append.1 h.nodup).1
    simp only [stk] at h1
    have h2 := (List.nodup_cons.1 (List.nodup_append.1 h1).2.1).1
    exact ⟨fun e => h2 (e ▸ fst_mem hs), fun hm => h2 (snd_mem hs hm)⟩
  have hpord : ord p ≠ 0 := (h.reached p).1 (by simp [stk])
  have hwm : (adj p).getD (nx p) 0 ∈ adj p := by
    rw [List.getD_eq_getElem?_getD, List.getElem?_eq_getElem hi]
    exact List.getElem_mem hi
  have hlle : lw ≤ low p := by
    rw [hl]; split
    · exact Nat.min_le_left _ _
    · exact Nat.le_refl _
  refine ⟨h.inr, h.nodup, h.reached, h.bound, h.dec, ?_, ?_, ?_, ?_, h.down, h.seg, ?_, ?_, h.closed, h.scc⟩
  · intro u
    by_cases e : u = p
    · subst e; rw [upd_same]; exact hi
    · rw [upd_other nx _ e]; exact h.nxle u
  · intro u hu
    by_cases e : u = p
    · subst e; exact absurd hu hpord
    · rw [upd_other nx _ e]; exact h.nx0 u hu
  · intro s hs u hu
    have e : u ≠ p := by
      rcases List.mem_cons.1 hs with rfl | hs
      · intro e; exact hpr (e ▸ hu)
      · intro e; exact (hprest s hs).2 (e ▸ hu)
    rw [upd_other nx _ e]
    exact h.fin s hs u hu
  · intro u i hi'
    by_cases e : u = p
    · subst e
      rw [upd_same] at hi'
      by_cases e2 : i = nx u
      · subst e2; exact hw
      · exact h.fol u i (by omega)
    · rw [upd_other nx _ e] at hi'
      exact h.fol u i hi'
  · intro s hs
    by_cases e : s.1 = p
    · have hsp : s = (p, r) := by
        rcases List.mem_cons.1 hs with rfl | hs
        · rfl
        · exact absurd e (hprest s hs).1
      subst hsp
      show upd low p lw p ≤ ord p ∧ ∃ x ∈ stk ((p, r) :: rest), ord x = upd low p lw p ∧ Reach adj p x
      rw [upd_same]
      obtain ⟨h1, x, hx, h2, h3⟩ := h.lowS (p, r) hs
      refine ⟨Nat.le_trans hlle h1, ?_⟩
      by_cases hm : (adj p).getD (nx p) 0 ∈ stk ((p, r) :: rest)
      · rw [if_pos hm] at hl
        by_cases hmin : low p ≤ ord ((adj p).getD (nx p) 0)
        · rw [Nat.min_eq_left hmin] at hl
          exact ⟨x, hx, by rw [hl]; exact h2, h3⟩
        · rw [Nat.min_eq_right (by omega)] at hl
          exact ⟨_, hm, hl.symm, Reach.edge hwm⟩
      · rw [if_neg hm] at hl
        exact ⟨x, hx, by rw [hl]; exact h2, h3⟩
    · rw [upd_other low _ e]
      exact h.lowS s hs
  · intro s hs u hu i hi' hm
    by_cases e : s.1 = p
    · have hsp : s = (p, r) := by
        rcases List.mem_cons.1 hs with rfl | hs
        · rfl
        · exact absurd e (hprest s hs).1
      subst hsp
      show upd low p lw p ≤ _
      rw [upd_same]
      by_cases e1 : u = p
      · subst e1
        rw [upd_same] at hi'
        by_cases e2 : i = nx u
        · subst e2
          rw [if_pos hm] at hl
          rw [hl]
          exact Nat.min_le_right _ _
        · exact Nat.le_trans hlle (h.cov _ hs u hu i (by omega) hm)
      · rw [upd_other nx _ e1] at hi'
        exact Nat.le_trans hlle (h.cov _ hs u hu i hi' hm)
    · rw [upd_other low _ e]
      have e1 : u ≠ p := by
        rcases List.mem_cons.1 hs with rfl | hs
        · exact absurd rfl e
        · rcases hu with hu | rfl
          · intro e1; exact (hprest s hs).2 (e1 ▸ hu)
          · exact e
      rw [upd_other nx _ e1] at hi'
      exact h.cov s hs u hu i hi' hm

theorem stk_cons (p : Nat) (r : List Nat) (rest : List (Nat × List Nat)) : stk ((p, r) :: rest) = r ++ p :: stk rest := rfl

/-- Of the stack's vertices just those of the top segment bear at least the top vertex's number. -/
theorem Inv.top_of_le {p : Nat} {r : List Nat} {rest : List (Nat × List Nat)} (h : Inv n adj ord low nx ((p, r) :: rest) cs cnt) {x : Nat} (hx : x ∈ stk ((p, r) :: rest)) (hle : ord p ≤ ord x) : x ∈ r ∨ x = p := by
  rw [stk_cons] at hx
  rcases List.mem_append.1 hx with hx | hx
  · exact .inl hx
  · rcases List.mem_cons.1 hx with rfl | hx
    · exact .inr rfl
    · have hd := h.dec
      rw [stk_cons] at hd
      have := (List.pairwise_cons.1 (List.pairwise_append.1 hd).2.1).1 x hx
      omega

/-- The top vertex, all its edges followed, is no component's first: its segment joins the next one. -/
theorem Inv.merge {p q : Nat} {r t : List Nat} {rest : List (Nat × List Nat)} (h : Inv n adj ord low nx ((p, r) :: (q, t) :: rest) cs cnt) (hf : nx p = (adj p).length) (hlow : low p ≠ ord p) (lw : Nat) (hl : lw = min (low q) (low p)) :
    Inv n adj ord (upd low q lw) nx ((q, r ++ p :: t) :: rest) cs cnt := by
  have hst : stk ((q, r ++ p :: t) :: rest) = stk ((p, r) :: (q, t) :: rest) := by simp [stk]
  have hnd := (List.nodup_append.1 h.nodup).1
  have hqrest : ∀ s ∈ rest, s.1 ≠ q := by
    intro s hs e
    simp only [stk] at hnd
    have h2 := (List.nodup_cons.1 (List.nodup_append.1 (List.nodup_cons.1 (List.nodup_append.1 hnd).2.1).2).2.1).1
    exact h2 (e ▸ fst_mem hs)
  obtain ⟨hp1, x, hx, hpx, hrx⟩ := h.lowS (p, r) (by simp)
  have hp1' : low p ≤ ord p := hp1
  have hpx' : ord x = low p := hpx
  have hrx' : Reach adj p x := hrx
  have hqp : Reach adj q p := (List.pairwise_cons.1 h.down).1 (q, t) (by simp)
  have hxlow : x ∈ stk ((q, t) :: rest) := by
    rw [stk_cons] at hx
    rcases List.mem_append.1 hx with hx | hx
    · have hd := h.dec
      rw [stk_cons] at hd
      have := (List.pairwise_append.1 hd).2.2 x hx p (by simp)
      omega
    · rcases List.mem_cons.1 hx with rfl | hx
      · exact absurd hpx'.symm hlow
      · exact hx
  have hdq := List.pairwise_cons.1 (List.pairwise_cons.1 h.down).2
  have hxq : Reach adj x q := by
    obtain ⟨s, hs, hxs⟩ := mem_stk hxlow
    have hxs1 : Reach adj x s.1 := by
      rcases hxs with hxs | rfl
      · exact (h.seg s (List.mem_cons_of_mem _ hs) x hxs).2
      · exact Reach.refl _ _
    rcases List.mem_cons.1 hs with rfl | hs
    · exact hxs1
    · exact hxs1.trans (hdq.1 s hs)
  have hpq : Reach adj p q := hrx'.trans hxq
  refine ⟨h.inr, ?_, ?_, h.bound, ?_, h.nxle, h.nx0, ?_, h.fol, ?_, ?_, ?_, ?_, h.closed, h.scc⟩
  · rw [hst]; exact h.nodup
  · rw [hst]; exact h.reached
  · rw [hst]; exact h.dec
  · intro s hs u hu
    rcases List.mem_cons.1 hs with rfl | hs
    · rcases List.mem_append.1 hu with hu | hu
      · exact h.fin (p, r) (by simp) u hu
      · rcases List.mem_cons.1 hu with rfl | hu
        · exact hf
        · exact h.fin (q, t) (by simp) u hu
    · exact h.fin s (by simp [hs]) u hu
  · exact List.pairwise_cons.2 ⟨fun s hs => hdq.1 s hs, hdq.2⟩
  · intro s hs u hu
    rcases List.mem_cons.1 hs with rfl | hs
    · rcases List.mem_append.1 hu with hu | hu
      · obtain ⟨h1, h2⟩ := h.seg (p, r) (by simp) u hu
        exact ⟨hqp.trans h1, h2.trans hpq⟩
      · rcases List.mem_cons.1 hu with rfl | hu
        · exact ⟨hqp, hpq⟩
        · exact h.seg (q, t) (by simp) u hu
    · exact h.seg s (by simp [hs]) u hu
  · intro s hs
    rw [hst]
    rcases List.mem_cons.1 hs with rfl | hs
    · show upd low q lw q ≤ ord q ∧ ∃ x ∈ stk ((p, r) :: (q, t) :: rest), ord x = upd low q lw q ∧ Reach adj q x
      rw [upd_same]
      obtain ⟨h1, y, hy, h2, h3⟩ := h.lowS (q, t) (by simp)
      have h1' : low q ≤ ord q := h1
      have h2' : ord y = low q := h2
      refine ⟨by rw [hl]; exact Nat.le_trans (Nat.min_le_left _ _) h1', ?_⟩
      by_cases hm : low q ≤ low p
      · rw [Nat.min_eq_left hm] at hl
        exact ⟨y, hy, by rw [hl]; exact h2', h3⟩
      · rw [Nat.min_eq_right (by omega)] at hl
        exact ⟨x, hx, by rw [hl]; exact hpx', hqp.trans hrx'⟩
    · rw [upd_other low _ (hqrest s hs)]
      exact h.lowS s (by simp [hs])
  · intro s hs u hu i hi hm
    rw [hst] at hm
    rcases List.mem_cons.1 hs with rfl | hs
    · show upd low q lw q ≤ _
      rw [upd_same, hl]
      have hcase : (u ∈ r ∨ u = p) ∨ (u ∈ t ∨ u = q) := by
        rcases hu with hu | hu
        · rcases List.mem_append.1 hu with hu | hu
          · exact .inl (.inl hu)
          · rcases List.mem_cons.1 hu with hu | hu
            · exact .inl (.inr hu)
            · exact .inr (.inl hu)
        · exact .inr (.inr hu)
      rcases hcase with hu | hu
      · exact Nat.le_trans (Nat.min_le_right _ _) (h.cov (p, r) (by simp) u hu i hi hm)
      · exact Nat.le_trans (Nat.min_le_left _ _) (h.cov (q, t) (by simp) u hu i hi hm)
    · rw [upd_other low _ (hqrest s hs)]
      exact h.cov s (by simp [hs]) u hu i hi hm

/-- The top vertex, all its edges followed, is a component's first: its segment is that component. -/
theorem Inv.emit {p : Nat} {r : List Nat} {rest : List (Nat × List Nat)} (h : Inv n adj ord low nx ((p, r) :: rest) cs cnt) (hf : nx p = (adj p).length) (hlow : low p = ord p) (c : List Nat) (hc : c.Perm (r ++ [p])) :
    Inv n adj ord low nx rest (cs ++ [c]) cnt := by
  have hcm : ∀ x, x ∈ c ↔ x ∈ r ∨ x = p := by
    intro x
    rw [hc.mem_iff]
    simp
  have hfl : (cs ++ [c]).flatten = cs.flatten ++ c := by simp
  have hperm : (stk rest ++ (cs ++ [c]).flatten).Perm (stk ((p, r) :: rest) ++ cs.flatten) := by
    rw [hfl, stk_cons]
    have e1 : (r ++ p :: stk rest) = (r ++ [p]) ++ stk rest := by simp
    rw [e1]
    refine (List.perm_append_comm (l₁ := stk rest)).trans ?_
    refine ((List.perm_append_comm (l₁ := cs.flatten) (l₂ := c)).append_right _).trans ?_
    rw [List.append_assoc, List.append_assoc]
    refine (hc.append_right _).trans ?_
    exact List.Perm.append_left _ List.perm_append_comm
  have hall : ∀ u, (u ∈ r ∨ u = p) → nx u = (adj u).length := by
    intro u hu
    rcases hu with hu | rfl
    · exact h.fin (p, r) (by simp) u hu
    · exact hf
  -- an edge out of the segment stays in it or comes to what was found before
  have hout : ∀ u, (u ∈ r ∨ u = p) → ∀ w ∈ adj u, (w ∈ r ∨ w = p) ∨ w ∈ cs.flatten := by
    intro u hu w hw
    obtain ⟨i, hi, rfl⟩ := List.mem_iff_getElem.1 hw
    have hg : (adj u).getD i 0 = (adj u)[i] := by rw [List.getD_eq_getElem?_getD, List.getElem?_eq_getElem hi]; rfl
    have hlt : i < nx u := by rw [hall u hu]; exact hi
    have h1 := (h.reached _).2 (h.fol u i hlt)
    rw [hg] at h1
    rcases List.mem_append.1 h1 with h1 | h1
    · left
      refine h.top_of_le h1 ?_
      have := h.cov (p, r) (by simp) u hu i hlt (by rw [hg]; exact h1)
      rw [hg] at this
      have this' : low p ≤ ord (adj u)[i] := this
      omega
    · exact .inr h1
  have hdis : ∀ x, (x ∈ r ∨ x = p) → x ∉ cs.flatten := by
    intro x hx hm
    have := (List.nodup_append.1 h.nodup).2.2 x (by rw [stk_cons]; simp; rcases hx with hx | hx; exact .inl hx; exact .inr (.inl hx)) x hm
    exact this rfl
  have hcl : ∀ u, ((u ∈ r ∨ u = p) ∨ u ∈ cs.flatten) → ∀ w ∈ adj u, (w ∈ r ∨ w = p) ∨ w ∈ cs.flatten := by
    intro u hu w hw
    rcases hu with hu | hu
    · exact hout u hu w hw
    · exact .inr (h.closed u hu w hw)
  have hsub : ∀ x ∈ stk rest, x ∈ stk ((p, r) :: rest) := by
    intro x hx
    rw [stk_cons]
    simp [hx]
  refine ⟨h.inr, ?_, ?_, h.bound, ?_, h.nxle, h.nx0, ?_, h.fol, (List.pairwise_cons.1 h.down).2, ?_, ?_, ?_, ?_, ?_⟩
  · exact hperm.nodup_iff.2 h.nodup
  · intro v
    rw [hperm.mem_iff]
    exact h.reached v
  · have := h.dec
    rw [stk_cons] at this
    exact (List.pairwise_cons.1 (List.pairwise_append.1 this).2.1).2
  · intro s hs u hu
    exact h.fin s (by simp [hs]) u hu
  · intro s hs u hu
    exact h.seg s (by simp [hs]) u hu
  · intro s hs
    obtain ⟨h1, x, hx, h2, h3⟩ := h.lowS s (by simp [hs])
    refine ⟨h1, x, ?_, h2, h3⟩
    rw [stk_cons] at hx
    have hd := h.dec
    rw [stk_cons] at hd
    have hs1 : ord s.1 < ord p := (List.pairwise_cons.1 (List.pairwise_append.1 hd).2.1).1 s.1 (fst_mem hs)
    rcases List.mem_append.1 hx with hx | hx
    · have := (List.pairwise_append.1 hd).2.2 x hx p (by simp)
      omega
    · rcases List.mem_cons.1 hx with rfl | hx
      · omega
      · exact hx
  · intro s hs u hu i hi hm
    exact h.cov s (by simp [hs]) u hu i hi (hsub _ hm)
  · intro u hu w hw
    rw [hfl] at hu ⊢
    have : (w ∈ r ∨ w = p) ∨ w ∈ cs.flatten := by
      refine hcl u ?_ w hw
      rcases List.mem_append.1 hu with hu | hu
      · exact .inr hu
      · exact .inl ((hcm u).1 hu)
    rcases this with h1 | h1
    · exact List.mem_append_right _ ((hcm w).2 h1)
    · exact List.mem_append_left _ h1
  · intro d hd
    rcases List.mem_append.1 hd with hd | hd
    · exact h.scc d hd
    · simp at hd
      subst hd
      have hto : ∀ u ∈ d, Reach adj u p ∧ Reach adj p u := by
        intro u hu
        rcases (hcm u).1 hu with hu | rfl
        · have := h.seg (p, r) (by simp) u hu
          exact ⟨this.2, this.1⟩
        · exact ⟨Reach.refl _ _, Reach.refl _ _⟩
      refine ⟨fun u hu v hv => (hto u hu).1.trans (hto v hv).2, fun u hu v huv hvu => ?_⟩
      have hv : (v ∈ r ∨ v = p) ∨ v ∈ cs.flatten := Reach.closed (C := fun x => (x ∈ r ∨ x = p) ∨ x ∈ cs.flatten) hcl (.inl ((hcm u).1 hu)) huv
      rcases hv with hv | hv
      · exact (hcm v).2 hv
      · have : u ∈ cs.flatten := Reach.closed (C := fun x => x ∈ cs.flatten) h.closed hv hvu
        exact absurd this (hdis u ((hcm u).1 hu))

/-- The path's first vertex is a component's first. -/
theorem Inv.last {p : Nat} {r : List Nat} (h : Inv n adj ord low nx [(p, r)] cs cnt) : low p = ord p := by
  obtain ⟨h1, x, hx, h2, _⟩ := h.lowS (p, r) (by simp)
  have h1' : low p ≤ ord p := h1
  have h2' : ord x = low p := h2
  have hd := h.dec
  rw [stk_cons] at hd hx
  rcases List.mem_append.1 hx with hx | hx
  · have := (List.pairwise_append.1 hd).2.2 x hx p (by simp)
    omega
  · simp [stk] at hx
    subst hx
    omega

/-- At the end, when every vertex has been reached and the stack is empty: the components found are just the sets of vertices that reach each other. -/
theorem Inv.done (h : Inv n adj ord low nx [] cs cnt) (hall : ∀ v, v < n → ord v ≠ 0) : cs.flatten.Nodup ∧ (∀ v, v ∈ cs.flatten ↔ v < n) ∧ ∀ c ∈ cs, (∀ u ∈ c, ∀ v ∈ c, Reach adj u v) ∧ ∀ u ∈ c, ∀ v, Reach adj u v → Reach adj v u → v ∈ c := by
  have hn := h.nodup
  have hr := h.reached
  simp only [stk, List.nil_append] at hn hr
  exact ⟨hn, fun v => ⟨fun hv => h.inr v ((hr v).1 hv), fun hv => (hr v).2 (hall v hv)⟩, h.scc⟩
end
end Go.Proofs.Qxb6616078a.Tj
