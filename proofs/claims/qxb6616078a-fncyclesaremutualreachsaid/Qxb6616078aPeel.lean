/- Kahn's peeling and the graph turned round, plainly. -/
import Derived.Test.Qxb6616078aTarjan
namespace Go.Proofs.Qxb6616078a.Tj

/-- The vertices below k whose lists hold w, in order. -/
def revTo (adj : Nat → List Nat) (k w : Nat) : List Nat := (List.range k).filter fun u => (adj u).contains w

theorem mem_revTo {adj : Nat → List Nat} {k w u : Nat} : u ∈ revTo adj k w ↔ u < k ∧ w ∈ adj u := by
  simp [revTo]
theorem revTo_nodup (adj : Nat → List Nat) (k w : Nat) : (revTo adj k w).Nodup := List.Pairwise.filter _ List.nodup_range
theorem revTo_succ (adj : Nat → List Nat) (k w : Nat) : revTo adj (k + 1) w = revTo adj k w ++ if (adj k).contains w then [k] else [] := by
  unfold revTo
  rw [List.range_succ, List.filter_append]
  simp [List.filter_cons]

theorem reach_rev_one {adj radj : Nat → List Nat} {n : Nat} (hn : ∀ u, u < n → ∀ v ∈ adj u, v < n) (h : ∀ u v, u < n → v < n → v ∈ adj u → u ∈ radj v) {u v : Nat} (hu : u < n) (hr : Reach adj u v) : Reach radj v u := by
  obtain ⟨l, hr⟩ := hr
  induction l generalizing u with
  | nil => have e : u = v := hr; exact e ▸ Reach.refl _ _
  | cons x l ih =>
    have hx := hn u hu x hr.1
    exact (ih hx hr.2).trans (Reach.edge (h u x hu hx hr.1))

theorem reach_lt {adj : Nat → List Nat} {n : Nat} (hn : ∀ u, u < n → ∀ v ∈ adj u, v < n) {u v : Nat} (hu : u < n) (h : Reach adj u v) : v < n := Reach.closed (C := fun u => u < n) hn hu h

/-- Turned round, what reaches each other reaches each other. -/
theorem both_rev {adj radj : Nat → List Nat} {n : Nat} (hn : ∀ u, u < n → ∀ v ∈ adj u, v < n) (hr : ∀ u, u < n → ∀ v, v ∈ radj u ↔ v < n ∧ u ∈ adj v) {u v : Nat} (hu : u < n) (hv : v < n) : (Reach adj u v ∧ Reach adj v u) ↔ (Reach radj u v ∧ Reach radj v u) := by
  have hn' : ∀ u, u < n → ∀ v ∈ radj u, v < n := fun u hu v h => ((hr u hu v).1 h).1
  have a1 : ∀ {u v}, u < n → Reach adj u v → Reach radj v u := fun hu => reach_rev_one hn (fun u v hu hv h => (hr v hv u).2 ⟨hu, h⟩) hu
  have a2 : ∀ {u v}, u < n → Reach radj u v → Reach adj v u := fun hu => reach_rev_one hn' (fun u v hu hv h => ((hr u hu v).1 h).2) hu
  constructor
  · rintro ⟨h1, h2⟩; exact ⟨a1 hv h2, a1 hu h1⟩
  · rintro ⟨h1, h2⟩; exact ⟨a2 hv h2, a2 hu h1⟩

/-- How many edges of p lead to vertices that are not peeled yet. -/
def lft (adj : Nat → List Nat) (P : List Nat) (p : Nat) : Nat := ((adj p).filter fun w => !P.contains w).length

theorem lft_nil (adj : Nat → List Nat) (p : Nat) : lft adj [] p = (adj p).length := by
  simp [lft]

theorem filter_ne_length {l : List Nat} (hl : l.Nodup) (w : Nat) : (l.filter fun x => x != w).length = if w ∈ l then l.length - 1 else l.length := by
  induction l with
  | nil => simp
  | cons a r ih =>
    rw [List.nodup_cons] at hl
    have ih := ih hl.2
    by_cases e : a = w
    · subst e
      have : a ∉ r := hl.1
      simp [this] at ih
      rw [List.filter_cons_of_neg (by simp)]
      simpa using ih
    · have e' : ¬ w = a := fun h => e h.symm
      rw [List.filter_cons_of_pos (by simp [e])]
      simp only [List.length_cons, List.mem_cons, e', false_or, ih]
      by_cases h : w ∈ r
      · have : 0 < r.length := List.length_pos_of_mem h
        simp [h]; omega
      · simp [h]

theorem lft_snoc {adj : Nat → List Nat} {p : Nat} (hp : (adj p).Nodup) (P : List Nat) (w : Nat) (hw : w ∉ P) : lft adj (P ++ [w]) p = if w ∈ adj p then lft adj P p - 1 else lft adj P p := by
  unfold lft
  have e : ((adj p).filter fun x => !(P ++ [w]).contains x) = ((adj p).filter fun x => !P.contains x).filter fun x => x != w := by
    rw [List.filter_filter]
    apply List.filter_congr
    intro x _
    simp only [List.contains_eq_mem, List.mem_append, List.mem_singleton]
    by_cases h1 : x ∈ P <;> by_cases h2 : x = w <;> simp [h1, h2]
  rw [e, filter_ne_length (hp.filter _)]
  have : (w ∈ (adj p).filter fun x => !P.contains x) ↔ w ∈ adj p := by simp [hw]
  simp only [this]

theorem lft_pos {adj : Nat → List Nat} {p : Nat} (P : List Nat) (w : Nat) (hw : w ∉ P) (hp : w ∈ adj p) : 1 ≤ lft adj P p := by
  unfold lft
  exact List.length_pos_of_mem (a := w) (by simp [hp, hw])

theorem lft_zero {adj : Nat → List Nat} {p : Nat} {P : List Nat} : lft adj P p = 0 ↔ ∀ w ∈ adj p, w ∈ P := by
  unfold lft
  rw [List.length_eq_zero_iff, List.filter_eq_nil_iff]
  simp

/-- The peeling: L: what is left of each vertex; Q: the queue; i of it are peeled, and j of the edges that lead to the next. -/
structure Peel (n : Nat) (adj : Nat → List Nat) (L : Nat → Nat) (Q : List Nat) (i j : Nat) : Prop where
  nodup : Q.Nodup
  lt : ∀ v ∈ Q, v < n
  ile : i ≤ Q.length
  j0 : i = Q.length → j = 0
  left : ∀ p, p < n → L p = if 0 < j ∧ p ∈ (revTo adj n (Q.getD i 0)).take j then lft adj (Q.take (i + 1)) p else lft adj (Q.take i) p
  zero : ∀ p, p < n → (p ∈ Q ↔ L p = 0)
  order : ∀ k, k < Q.length → ∀ w ∈ adj (Q.getD k 0), w ∈ Q.take k

theorem Peel.start (n : Nat) (adj : Nat → List Nat) (L : Nat → Nat) (hL : ∀ v, v < n → L v = (adj v).length) : Peel n adj L ((List.range n).filter fun v => decide ((adj v).length = 0)) 0 0 where
  nodup := List.Pairwise.filter _ List.nodup_range
  lt v hv := by simp at hv; exact hv.1
  ile := Nat.zero_le _
  j0 _ := rfl
  left p hp := by simp [hL p hp, lft_nil]
  zero p hp := by simp [hL p hp, hp]
  order k hk w hw := by
    have := List.getElem_mem hk
    rw [List.mem_filter] at this
    have h0 := of_decide_eq_true this.2
    rw [List.getD_eq_getElem?_getD, List.getElem?_eq_getElem hk] at hw
    simp only [Option.getD_some] at hw
    rw [List.eq_nil_of_length_eq_zero h0] at hw
    simp at hw

section
variable {n : Nat} {adj : Nat → List Nat} {L : Nat → Nat} {Q : List Nat} {i j : Nat}

theorem take_snoc_getD {Q : List Nat} {i : Nat} (h : i < Q.length) : Q.take (i + 1) = Q.take i ++ [Q.getD i 0] := by
  rw [List.take_add_one, List.getElem?_eq_getElem h]
  simp [List.getD_eq_getElem?_getD, List.getElem?_eq_getElem h]

theorem not_mem_take {Q : List Nat} (h : Q.Nodup) {i : Nat} (hi : i < Q.length) : Q.getD i 0 ∉ Q.take i := by
  have e : Q = Q.take i ++ Q.drop i := (List.take_append_drop i Q).symm
  have h1 : Q.drop i = Q.getD i 0 :: Q.drop (i + 1) := by
    rw [List.drop_eq_getElem_cons hi]
    simp [List.getD_eq_getElem?_getD, List.getElem?_eq_getElem hi]
  rw [e, h1] at h
  intro hm
  exact (List.nodup_append.1 h).2.2 _ hm _ (List.mem_cons_self) rfl

/-- What is left of the vertex at the edge's other end, and that it is not in the queue yet. -/
theorem Peel.at (h : Peel n adj L Q i j) (hi : i < Q.length) (hadj : ∀ v, v < n → (adj v).Nodup) (hj : j < (revTo adj n (Q.getD i 0)).length) :
    ∃ p, (revTo adj n (Q.getD i 0))[j]? = some p ∧ p < n ∧ 1 ≤ L p ∧ L p - 1 = lft adj (Q.take (i + 1)) p ∧ p ∉ Q := by
  obtain ⟨p, hp⟩ : ∃ p, (revTo adj n (Q.getD i 0))[j]? = some p := ⟨_, List.getElem?_eq_getElem hj⟩
  have hm := List.mem_of_getElem? hp
  rw [mem_revTo] at hm
  have hnt : p ∉ (revTo adj n (Q.getD i 0)).take j := by
    have hnd := revTo_nodup adj n (Q.getD i 0)
    have := not_mem_take hnd hj
    have e : (revTo adj n (Q.getD i 0)).getD j 0 = p := by
      rw [List.getD_eq_getElem?_getD (l := revTo adj n (Q.getD i 0)), hp]
      rfl
    rw [e] at this
    exact this
  have hL := h.left p hm.1
  rw [if_neg (fun hh => hnt hh.2)] at hL
  have hni := not_mem_take h.nodup hi
  have hpos := lft_pos (adj := adj) (p := p) (Q.take i) _ hni hm.2
  refine ⟨p, hp, hm.1, by omega, ?_, ?_⟩
  · rw [take_snoc_getD hi, lft_snoc (hadj p hm.1) _ _ hni, if_pos hm.2, hL]
  · intro hq
    have := (h.zero p hm.1).1 hq
    omega

theorem Peel.step (h : Peel n adj L Q i j) (hi : i < Q.length) (hadj : ∀ v, v < n → (adj v).Nodup) {p : Nat} (hp : (revTo adj n (Q.getD i 0))[j]? = some p) (Q' : List Nat) (hQ' : Q' = if L p - 1 = 0 then Q ++ [p] else Q) :
    Peel n adj (upd L p (L p - 1)) Q' i (j + 1) := by
  have hj : j < (revTo adj n (Q.getD i 0)).length := (List.getElem?_eq_some_iff.1 hp).1
  obtain ⟨p', hp', hpn, hL1, hL2, hnq⟩ := h.at hi hadj hj
  have e : p' = p := by rw [hp'] at hp; exact Option.some.inj hp
  subst e
  have hcase : (Q' = Q ++ [p'] ∧ L p' - 1 = 0) ∨ (Q' = Q ∧ L p' - 1 ≠ 0) := by
    by_cases h0 : L p' - 1 = 0
    · exact .inl ⟨by rw [hQ', if_pos h0], h0⟩
    · exact .inr ⟨by rw [hQ', if_neg h0], h0⟩
  have hle : Q.length ≤ Q'.length := by rcases hcase with ⟨h1, _⟩ | ⟨h1, _⟩ <;> simp [h1]
  have hget : ∀ k, k < Q.length → Q'.getD k 0 = Q.getD k 0 := by
    intro k hk
    rcases hcase with ⟨h1, _⟩ | ⟨h1, _⟩
    · rw [h1, List.getD_eq_getElem?_getD, List.getElem?_append_left hk, ← List.getD_eq_getElem?_getD]
    · rw [h1]
  have htk : ∀ k, k ≤ Q.length → Q'.take k = Q.take k := by
    intro k hk
    rcases hcase with ⟨h1, _⟩ | ⟨h1, _⟩
    · rw [h1, List.take_append_of_le_length hk]
    · rw [h1]
  have hmem : ∀ x, x ∈ Q' ↔ x ∈ Q ∨ (x = p' ∧ L p' - 1 = 0) := by
    intro x
    rcases hcase with ⟨h1, h2⟩ | ⟨h1, h2⟩
    · rw [h1]; simp [h2]
    · rw [h1]; simp [h2]
  exact {
    nodup := by
      rcases hcase with ⟨h1, _⟩ | ⟨h1, _⟩
      · rw [h1]
        refine List.nodup_append.2 ⟨h.nodup, by simp, ?_⟩
        intro a ha b hb e
        simp at hb
        exact hnq (hb ▸ e ▸ ha)
      · rw [h1]; exact h.nodup
    lt := fun v hv => by
      rcases (hmem v).1 hv with hv | ⟨rfl, _⟩
      · exact h.lt v hv
      · exact hpn
    ile := by omega
    j0 := fun e => by omega
    left := fun x hx => by
      rw [hget i hi, htk (i + 1) (by omega), htk i (by omega), List.take_add_one, hp]
      by_cases ex : x = p'
      · subst ex
        rw [upd_same, if_pos ⟨by omega, by simp⟩, hL2]
      · rw [upd_other L _ ex, h.left x hx]
        have : (0 < j ∧ x ∈ (revTo adj n (Q.getD i 0)).take j) ↔ (0 < j + 1 ∧ x ∈ (revTo adj n (Q.getD i 0)).take j ++ (some p').toList) := by
          constructor
          · rintro ⟨h1, h2⟩; exact ⟨by omega, List.mem_append_left _ h2⟩
          · rintro ⟨h1, h2⟩
            rcases List.mem_append.1 h2 with h2 | h2
            · refine ⟨?_, h2⟩
              rcases Nat.eq_zero_or_pos j with h0 | h0
              · rw [h0] at h2; simp at h2
              · exact h0
            · simp at h2; exact absurd h2 ex
        simp only [this]
    zero := fun x hx => by
      rw [hmem]
      by_cases ex : x = p'
      · subst ex
        rw [upd_same]
        constructor
        · rintro (h1 | h1)
          · exact absurd h1 hnq
          · exact h1.2
        · exact fun h1 => .inr ⟨rfl, h1⟩
      · rw [upd_other L _ ex, ← h.zero x hx]
        simp [ex]
    order := fun k hk w hw => by
      by_cases hkl : k < Q.length
      · rw [hget k hkl] at hw
        rw [htk k (by omega)]
        exact h.order k hkl w hw
      · rcases hcase with ⟨h1, h0⟩ | ⟨h1, _⟩
        · have ek : k = Q.length := by rw [h1] at hk; simp at hk; omega
          subst ek
          rw [h1, List.getD_eq_getElem?_getD, List.getElem?_append_right (Nat.le_refl _)] at hw
          simp at hw
          rw [hL2] at h0
          have := lft_zero.1 h0 w hw
          rw [htk _ (Nat.le_refl _), List.take_length]
          exact List.mem_of_mem_take this
        · rw [h1] at hk; omega }

theorem Peel.next (h : Peel n adj L Q i j) (hi : i < Q.length) (hadj : ∀ v, v < n → (adj v).Nodup) (hj : j = (revTo adj n (Q.getD i 0)).length) : Peel n adj L Q (i + 1) 0 where
  nodup := h.nodup
  lt := h.lt
  ile := by omega
  j0 _ := rfl
  left p hp := by
    rw [h.left p hp, hj, List.take_length]
    rw [if_neg (fun hh : 0 < 0 ∧ _ => absurd hh.1 (by omega))]
    by_cases hm : p ∈ revTo adj n (Q.getD i 0)
    · rw [if_pos ⟨List.length_pos_of_mem hm, hm⟩]
    · rw [if_neg (fun hh => hm hh.2), take_snoc_getD hi, lft_snoc (hadj p hp) _ _ (not_mem_take h.nodup hi), if_neg]
      exact fun hh => hm (mem_revTo.2 ⟨hp, hh⟩)
  zero := h.zero
  order := h.order

theorem nodup_le : ∀ (n : Nat) (l : List Nat), l.Nodup → (∀ x ∈ l, x < n) → l.length ≤ n
  | 0, l, _, h => by
    cases l with
    | nil => simp
    | cons a r => exact absurd (h a (by simp)) (Nat.not_lt_zero _)
  | n + 1, l, hn, h => by
    have h1 := nodup_le n (l.filter fun x => x != n) (hn.filter _) (fun x hx => by
      simp at hx
      have := h x hx.1
      omega)
    rw [filter_ne_length hn] at h1
    by_cases hm : n ∈ l
    · rw [if_pos hm] at h1; omega
    · rw [if_neg hm] at h1; omega

theorem all_of_length {n : Nat} {l : List Nat} (hn : l.Nodup) (h : ∀ x ∈ l, x < n) (hl : l.length = n) (v : Nat) (hv : v < n) : v ∈ l := by
  refine Classical.byContradiction fun hm => ?_
  have := nodup_le n (v :: l) (List.nodup_cons.2 ⟨hm, hn⟩) (fun x hx => by
    rcases List.mem_cons.1 hx with rfl | hx
    · exact hv
    · exact h x hx)
  simp at this
  omega

theorem idx_lt (h : Peel n adj L Q i j) {u w : Nat} (hu : u ∈ Q) (hw : w ∈ adj u) : w ∈ Q ∧ Q.idxOf w < Q.idxOf u := by
  have hk : Q.idxOf u < Q.length := List.idxOf_lt_length_iff.2 hu
  have he : Q.getD (Q.idxOf u) 0 = u := by
    rw [List.getD_eq_getElem?_getD, List.getElem?_eq_getElem hk]
    simp
  have := h.order _ hk w (by rw [he]; exact hw)
  refine ⟨List.mem_of_mem_take this, ?_⟩
  obtain ⟨m, hm, e⟩ := List.getElem_of_mem this
  rw [List.getElem_take] at e
  simp at hm
  have hle : Q.idxOf w ≤ m := by
    refine Nat.not_lt.1 fun hlt => ?_
    have := List.not_of_lt_findIdx hlt
    simp [e] at this
  omega

theorem reach_idx (h : Peel n adj L Q i j) {u v : Nat} (hu : u ∈ Q) (hr : Reach adj u v) : v ∈ Q ∧ (u = v ∨ Q.idxOf v < Q.idxOf u) := by
  obtain ⟨l, hr⟩ := hr
  induction l generalizing u with
  | nil => have e : u = v := hr; exact ⟨e ▸ hu, .inl e⟩
  | cons x l ih =>
    obtain ⟨hx, hlt⟩ := idx_lt h hu hr.1
    obtain ⟨h1, h2⟩ := ih hx hr.2
    refine ⟨h1, .inr ?_⟩
    rcases h2 with rfl | h2
    · exact hlt
    · omega

/-- THE PEELING TAKES EVERY VERTEX WHERE NOTHING IS A CYCLE, AND ONLY THERE. -/
theorem Peel.law (h : Peel n adj L Q Q.length 0) (hn : ∀ u, u < n → ∀ v ∈ adj u, v < n) : Q.length = n ↔ (∀ v, v < n → v ∉ adj v) ∧ ∀ u v, u < n → v < n → u ≠ v → ¬ (Reach adj u v ∧ Reach adj v u) := by
  constructor
  · intro hl
    have hall := all_of_length h.nodup h.lt hl
    refine ⟨fun v hv hm => ?_, fun u v hu hv hne hh => ?_⟩
    · have := (idx_lt h (hall v hv) hm).2
      omega
    · have h1 := (reach_idx h (hall u hu) hh.1).2
      have h2 := (reach_idx h (hall v hv) hh.2).2
      rcases h1 with h1 | h1
      · exact hne h1
      · rcases h2 with h2 | h2
        · exact hne h2.symm
        · omega
  · rintro ⟨h1, h2⟩
    refine Classical.byContradiction fun hl => ?_
    have hle := nodup_le n Q h.nodup h.lt
    obtain ⟨p, hp, hpq⟩ : ∃ p, p < n ∧ p ∉ Q := by
      refine Classical.byContradiction fun hno => ?_
      have hp : (List.range n).Perm Q := (List.perm_ext_iff_of_nodup List.nodup_range h.nodup).2 fun x => ⟨fun hx => Classical.byContradiction fun hxq => hno ⟨x, by simpa using hx, hxq⟩, fun hx => by simpa using h.lt x hx⟩
      have := hp.length_eq
      simp at this
      omega
    have hstep : ∀ u, u < n ∧ u ∉ Q → ∃ w, w ∈ adj u ∧ w < n ∧ w ∉ Q := by
      rintro u ⟨hu, huq⟩
      have hz := h.zero u hu
      have hL := h.left u hu
      rw [if_neg (fun hh => absurd hh.1 (by omega)), List.take_length] at hL
      have : lft adj Q u ≠ 0 := fun e => huq (hz.2 (hL.trans e))
      rw [Ne, lft_zero] at this
      refine Classical.byContradiction fun hno => this fun w hw => Classical.byContradiction fun hwq => hno ⟨w, hw, hn u hu w hw, hwq⟩
    -- an endless way through them
    let f : Nat → { u : Nat // u < n ∧ u ∉ Q } := fun k => Nat.rec ⟨p, hp, hpq⟩ (fun _ x => ⟨(hstep x.1 x.2).choose, (hstep x.1 x.2).choose_spec.2⟩) k
    have hf : ∀ k, (f (k + 1)).1 ∈ adj (f k).1 := fun k => (hstep (f k).1 (f k).2).choose_spec.1
    have hr : ∀ a d, Reach adj (f a).1 (f (a + d)).1 := by
      intro a d
      induction d with
      | zero => exact Reach.refl _ _
      | succ d ih => exact ih.trans (Reach.edge (hf (a + d)))
    have hinj : ((List.range (n + 1)).map fun k => (f k).1).Nodup := by
      unfold List.Nodup
      rw [List.pairwise_map]
      have hpw : (List.range (n + 1)).Pairwise (fun a b => a < b) := List.pairwise_lt_range
      refine hpw.imp_of_mem fun {a b} _ _ hab e => ?_
      have e1 := hr (a + 1) (b - (a + 1))
      rw [show a + 1 + (b - (a + 1)) = b from by omega, ← e] at e1
      by_cases hs : (f a).1 = (f (a + 1)).1
      · have := hf a
        rw [← hs] at this
        exact h1 _ (f a).2.1 this
      · exact h2 _ _ (f a).2.1 (f (a + 1)).2.1 hs ⟨Reach.edge (hf a), e1⟩
    have := nodup_le n _ hinj (fun x hx => by
      simp at hx
      obtain ⟨k, _, rfl⟩ := hx
      exact (f k).2.1)
    simp at this
    omega
end
end Go.Proofs.Qxb6616078a.Tj
