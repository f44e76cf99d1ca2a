/- The laws' model of cycles, plainly: the search in breadth from one vertex, and the classes it gives. -/
import Derived.Test.Qxb6616078aPeel
namespace Go.Proofs.Qxb6616078a.Tj

/-- From s by one edge or more. -/
def From (adj : Nat → List Nat) (s w : Nat) : Prop := ∃ x ∈ adj s, Reach adj x w

theorem From.reach {adj : Nat → List Nat} {s w : Nat} (h : From adj s w) : Reach adj s w := by
  obtain ⟨x, hx, hr⟩ := h
  exact (Reach.edge hx).trans hr
theorem From.of_ne {adj : Nat → List Nat} {s w : Nat} (hne : s ≠ w) (h : Reach adj s w) : From adj s w := by
  obtain ⟨l, h⟩ := h
  cases l with
  | nil => exact absurd h hne
  | cons x l => exact ⟨x, h.1, l, h.2⟩

structure Bfs (n : Nat) (adj : Nat → List Nat) (s : Nat) (Q : List Nat) : Prop where
  nodup : Q.Nodup
  lt : ∀ v ∈ Q, v < n
  sound : ∀ v ∈ Q, From adj s v

theorem Bfs.nil (n : Nat) (adj : Nat → List Nat) (s : Nat) : Bfs n adj s [] := ⟨by simp, by simp, by simp⟩
theorem Bfs.first {n : Nat} {adj : Nat → List Nat} {s : Nat} {Q : List Nat} (h : Bfs n adj s Q) {w : Nat} (hw : w ∈ adj s) (hn : w < n) (hq : w ∉ Q) : Bfs n adj s (Q ++ [w]) where
  nodup := List.nodup_append.2 ⟨h.nodup, by simp, fun a ha b hb e => by simp at hb; exact hq (hb ▸ e ▸ ha)⟩
  lt v hv := by
    rcases List.mem_append.1 hv with hv | hv
    · exact h.lt v hv
    · simp at hv; exact hv ▸ hn
  sound v hv := by
    rcases List.mem_append.1 hv with hv | hv
    · exact h.sound v hv
    · simp at hv; exact hv ▸ ⟨w, hw, Reach.refl _ _⟩
theorem Bfs.next {n : Nat} {adj : Nat → List Nat} {s : Nat} {Q : List Nat} (h : Bfs n adj s Q) {u w : Nat} (hu : u ∈ Q) (hw : w ∈ adj u) (hn : w < n) (hq : w ∉ Q) : Bfs n adj s (Q ++ [w]) where
  nodup := List.nodup_append.2 ⟨h.nodup, by simp, fun a ha b hb e => by simp at hb; exact hq (hb ▸ e ▸ ha)⟩
  lt v hv := by
    rcases List.mem_append.1 hv with hv | hv
    · exact h.lt v hv
    · simp at hv; exact hv ▸ hn
  sound v hv := by
    rcases List.mem_append.1 hv with hv | hv
    · exact h.sound v hv
    · simp at hv
      subst hv
      obtain ⟨x, hx, hr⟩ := h.sound u hu
      exact ⟨x, hx, hr.trans (Reach.edge hw)⟩
theorem Bfs.law {n : Nat} {adj : Nat → List Nat} {s : Nat} {Q : List Nat} (h : Bfs n adj s Q) (h1 : ∀ x ∈ adj s, x ∈ Q) (h2 : ∀ u ∈ Q, ∀ x ∈ adj u, x ∈ Q) (w : Nat) : w ∈ Q ↔ From adj s w := by
  constructor
  · exact h.sound w
  · rintro ⟨x, hx, hr⟩
    exact Reach.closed (C := fun u => u ∈ Q) h2 (h1 x hx) hr

/-- The classes found so far, the vertices below v being done. -/
structure MG (n : Nat) (adj : Nat → List Nat) (cs : List (List Nat)) (v : Nat) : Prop where
  nodup : cs.flatten.Nodup
  lt : ∀ x ∈ cs.flatten, x < n
  done : ∀ x, x < v → x ∈ cs.flatten
  scc : ∀ c ∈ cs, (∀ u ∈ c, ∀ x ∈ c, Reach adj u x) ∧ ∀ u ∈ c, ∀ x, Reach adj u x → Reach adj x u → x ∈ c

theorem MG.start (n : Nat) (adj : Nat → List Nat) : MG n adj [] 0 := ⟨by simp, by simp, fun x h => absurd h (Nat.not_lt_zero _), by simp⟩
theorem MG.skip {n : Nat} {adj : Nat → List Nat} {cs : List (List Nat)} {v : Nat} (h : MG n adj cs v) (hv : v ∈ cs.flatten) : MG n adj cs (v + 1) :=
  ⟨h.nodup, h.lt, fun x hx => by
    rcases Nat.lt_or_ge x v with h' | h'
    · exact h.done x h'
    · have : x = v := by omega
      exact this ▸ hv, h.scc⟩

/-- The set of v, as far as the vertices below k. -/
def classTo (R : Nat → Nat → Bool) (fl : List Nat) (v k : Nat) : List Nat := v :: (List.range k).filter fun x => decide (v < x) && !fl.contains x && R v x && R x v

theorem classTo_start (R : Nat → Nat → Bool) (fl : List Nat) (v : Nat) : classTo R fl v (v + 1) = [v] := by
  unfold classTo
  congr 1
  rw [List.filter_eq_nil_iff]
  intro x hx
  simp at hx
  have : ¬ v < x := by omega
  simp [this]
theorem classTo_succ (R : Nat → Nat → Bool) (fl : List Nat) (v k : Nat) (hk : v < k) : classTo R fl v (k + 1) = classTo R fl v k ++ if !fl.contains k && R v k && R k v then [k] else [] := by
  unfold classTo
  rw [List.range_succ, List.filter_append]
  simp [List.filter_cons, hk]
theorem classTo_lt {R : Nat → Nat → Bool} {fl : List Nat} {v k x : Nat} (hk : v < k) (h : x ∈ classTo R fl v k) : x < k := by
  unfold classTo at h
  rcases List.mem_cons.1 h with rfl | h
  · exact hk
  · simp at h; exact h.1

theorem MG.step {n : Nat} {adj : Nat → List Nat} {cs : List (List Nat)} {v : Nat} (h : MG n adj cs v) (hvn : v < n) (hv : v ∉ cs.flatten) (hadj : ∀ u, u < n → ∀ x ∈ adj u, x < n) (R : Nat → Nat → Bool) (hR : ∀ u x, u < n → x < n → (R u x = true ↔ From adj u x)) : MG n adj (cs ++ [classTo R cs.flatten v n]) (v + 1) := by
  have hmem : ∀ x, x ∈ classTo R cs.flatten v n ↔ x = v ∨ (x < n ∧ v < x ∧ x ∉ cs.flatten ∧ R v x = true ∧ R x v = true) := by
    intro x
    unfold classTo
    rw [List.mem_cons, List.mem_filter]
    simp only [List.mem_range, Bool.and_eq_true, decide_eq_true_eq, Bool.not_eq_true', List.contains_eq_mem, decide_eq_false_iff_not]
    constructor
    · rintro (h | ⟨h1, ⟨⟨h2, h3⟩, h4⟩, h5⟩)
      · exact .inl h
      · exact .inr ⟨h1, h2, h3, h4, h5⟩
    · rintro (h | ⟨h1, h2, h3, h4, h5⟩)
      · exact .inl h
      · exact .inr ⟨h1, ⟨⟨h2, h3⟩, h4⟩, h5⟩
  have hboth : ∀ x ∈ classTo R cs.flatten v n, x < n ∧ Reach adj v x ∧ Reach adj x v := by
    intro x hx
    rcases (hmem x).1 hx with rfl | ⟨h1, h2, h3, h4, h5⟩
    · exact ⟨hvn, Reach.refl _ _, Reach.refl _ _⟩
    · exact ⟨h1, ((hR v x hvn h1).1 h4).reach, ((hR x v h1 hvn).1 h5).reach⟩
  have hnc : ∀ x ∈ classTo R cs.flatten v n, x ∉ cs.flatten := by
    intro x hx
    rcases (hmem x).1 hx with rfl | ⟨h1, h2, h3, h4, h5⟩
    · exact hv
    · exact h3
  exact {
    nodup := by
      rw [List.flatten_append]
      refine List.nodup_append.2 ⟨h.nodup, ?_, fun a ha b hb e => ?_⟩
      · simp only [List.flatten_cons, List.flatten_nil, List.append_nil]
        unfold classTo
        refine List.nodup_cons.2 ⟨by simp, List.Pairwise.filter _ List.nodup_range⟩
      · simp only [List.flatten_cons, List.flatten_nil, List.append_nil] at hb
        exact hnc b hb (e ▸ ha)
    lt := fun x hx => by
      rw [List.flatten_append] at hx
      rcases List.mem_append.1 hx with hx | hx
      · exact h.lt x hx
      · simp only [List.flatten_cons, List.flatten_nil, List.append_nil] at hx
        exact (hboth x hx).1
    done := fun x hx => by
      rw [List.flatten_append]
      rcases Nat.lt_or_ge x v with h' | h'
      · exact List.mem_append_left _ (h.done x h')
      · have e : x = v := by omega
        subst e
        refine List.mem_append_right _ ?_
        simp only [List.flatten_cons, List.flatten_nil, List.append_nil]
        exact (hmem x).2 (.inl rfl)
    scc := fun c hc => by
      rcases List.mem_append.1 hc with hc | hc
      · exact h.scc c hc
      · simp at hc
        subst hc
        refine ⟨fun u hu x hx => (hboth u hu).2.2.trans (hboth x hx).2.1, fun u hu x h1 h2 => ?_⟩
        have hvx : Reach adj v x := (hboth u hu).2.1.trans h1
        have hxv : Reach adj x v := h2.trans (hboth u hu).2.2
        have hxn : x < n := reach_lt hadj hvn hvx
        by_cases e : x = v
        · exact (hmem x).2 (.inl e)
        · have hnf : x ∉ cs.flatten := by
            intro hxf
            obtain ⟨c, hc, hxc⟩ := List.mem_flatten.1 hxf
            exact hv (List.mem_flatten.2 ⟨c, hc, (h.scc c hc).2 x hxc v hxv hvx⟩)
          have hlt : v < x := by
            rcases Nat.lt_or_ge x v with h' | h'
            · exact absurd (h.done x h') hnf
            · omega
          exact (hmem x).2 (.inr ⟨hxn, hlt, hnf, (hR v x hvn hxn).2 (From.of_ne (fun h => e h.symm) hvx), (hR x v hxn hvn).2 (From.of_ne e hxv)⟩) }
end Go.Proofs.Qxb6616078a.Tj
