/- What 'the groups' and 'the self loops' of a graph are, plainly, and that each is one list alone. -/
import Derived.Test.Qxb6616078aTarjan
import Derived.Sort.KeysCollected
namespace Go.Proofs.Qxb6616078a.Tj
open Go

/-- The groups of two or more vertices that are in the relation M to each other; the names of a group in order, the groups by their first names. -/
structure IsGroups (name : Nat → List UInt8) (n : Nat) (M : Nat → Nat → Prop) (gs : List (List (List UInt8))) : Prop where
  each : ∀ g ∈ gs, ∃ c : List Nat, c.Nodup ∧ 2 ≤ c.length ∧ (∀ v ∈ c, v < n) ∧ g = (c.map name).mergeSort leB ∧ (∀ u ∈ c, ∀ v ∈ c, M u v) ∧ ∀ u ∈ c, ∀ v, v < n → M u v → v ∈ c
  all : ∀ u v, u < n → v < n → u ≠ v → M u v → ∃ g ∈ gs, name u ∈ g
  sorted : gs.Pairwise (fun a b => a.headD [] ≤ b.headD [])
  nodup : gs.Nodup

theorem mem_sorted_map {name : Nat → List UInt8} {c : List Nat} {x : List UInt8} : x ∈ (c.map name).mergeSort leB ↔ ∃ v ∈ c, name v = x := by
  rw [(List.mergeSort_perm _ _).mem_iff]
  simp

theorem head_mem {l : List (List UInt8)} (h : l ≠ []) : l.headD [] ∈ l := by
  cases l with
  | nil => exact absurd rfl h
  | cons a r => simp

section
variable {name : Nat → List UInt8} {n : Nat} {M M' : Nat → Nat → Prop}

/-- Two groups of one relation that share a name are one. -/
theorem group_eq (hinj : ∀ u v, u < n → v < n → name u = name v → u = v) {c d : List Nat} (hc : c.Nodup) (hd : d.Nodup) (hcn : ∀ v ∈ c, v < n) (hdn : ∀ v ∈ d, v < n)
    (hcM : ∀ u ∈ c, ∀ v ∈ c, M u v) (hdM : ∀ u ∈ d, ∀ v ∈ d, M u v) (hcm : ∀ u ∈ c, ∀ v, v < n → M u v → v ∈ c) (hdm : ∀ u ∈ d, ∀ v, v < n → M u v → v ∈ d) {u v : Nat} (hu : u ∈ c) (hv : v ∈ d) (he : name u = name v) :
    (c.map name).mergeSort leB = (d.map name).mergeSort leB := by
  have e : u = v := hinj u v (hcn u hu) (hdn v hv) he
  subst e
  have hp : c.Perm d := by
    rw [List.perm_ext_iff_of_nodup hc hd]
    intro x
    exact ⟨fun hx => hdm u hv x (hcn x hx) (hcM u hu x hx), fun hx => hcm u hu x (hdn x hx) (hdM u hv x hx)⟩
  exact mergeSort_of_perm (hp.map name)

theorem IsGroups.iff {gs : List (List (List UInt8))} (h : IsGroups name n M gs) (hM : ∀ u v, u < n → v < n → (M u v ↔ M' u v)) : IsGroups name n M' gs where
  each g hg := by
    obtain ⟨c, h1, h2, h3, h4, h5, h6⟩ := h.each g hg
    exact ⟨c, h1, h2, h3, h4, fun u hu v hv => (hM u v (h3 u hu) (h3 v hv)).1 (h5 u hu v hv), fun u hu v hv hm => h6 u hu v hv ((hM u v (h3 u hu) hv).2 hm)⟩
  all u v hu hv hne hm := h.all u v hu hv hne ((hM u v hu hv).2 hm)
  sorted := h.sorted
  nodup := h.nodup

theorem IsGroups.sub (hinj : ∀ u v, u < n → v < n → name u = name v → u = v) {gs hs : List (List (List UInt8))} (h : IsGroups name n M gs) (k : IsGroups name n M hs) : ∀ g ∈ gs, g ∈ hs := by
  intro g hg
  obtain ⟨c, h1, h2, h3, rfl, h5, h6⟩ := h.each g hg
  match c, h1, h2, h3, h5, h6 with
  | u :: v :: r, h1, h2, h3, h5, h6 =>
    have hne : u ≠ v := by
      intro e
      subst e
      exact (List.nodup_cons.1 h1).1 (by simp)
    obtain ⟨g', hg', hm⟩ := k.all u v (h3 u (by simp)) (h3 v (by simp)) hne (h5 u (by simp) v (by simp))
    obtain ⟨d, k1, k2, k3, rfl, k5, k6⟩ := k.each g' hg'
    obtain ⟨x, hx, he⟩ := mem_sorted_map.1 hm
    rw [group_eq hinj h1 k1 h3 k3 h5 k5 h6 k6 (u := u) (by simp) hx he.symm]
    exact hg'

/-- THE GROUPS ARE ONE LIST. -/
theorem IsGroups.unique (hinj : ∀ u v, u < n → v < n → name u = name v → u = v) {gs hs : List (List (List UInt8))} (h : IsGroups name n M gs) (k : IsGroups name n M hs) : gs = hs := by
  have hp : gs.Perm hs := by
    rw [List.perm_ext_iff_of_nodup h.nodup k.nodup]
    exact fun x => ⟨h.sub hinj k x, k.sub hinj h x⟩
  refine List.Perm.eq_of_pairwise (le := fun a b => a.headD [] ≤ b.headD []) (fun a b ha hb h1 h2 => ?_) h.sorted k.sorted hp
  have e := List.le_antisymm h1 h2
  obtain ⟨c, c1, c2, c3, rfl, c5, c6⟩ := h.each a ha
  obtain ⟨d, d1, d2, d3, rfl, d5, d6⟩ := k.each b hb
  have hc : (c.map name).mergeSort leB ≠ [] := by
    intro e0
    have := congrArg List.length e0
    simp at this
    rw [this] at c2
    simp at c2
  have hd : (d.map name).mergeSort leB ≠ [] := by
    intro e0
    have := congrArg List.length e0
    simp at this
    rw [this] at d2
    simp at d2
  obtain ⟨u, hu, eu⟩ := mem_sorted_map.1 (head_mem hc)
  obtain ⟨v, hv, ev⟩ := mem_sorted_map.1 (head_mem hd)
  exact group_eq hinj c1 d1 c3 d3 c5 d5 c6 d6 hu hv (by rw [eu, ev, e])

/-- The names, in order, of the vertices that have the property S. -/
def IsSelf (name : Nat → List UInt8) (n : Nat) (S : Nat → Prop) (ss : List (List UInt8)) : Prop := ∃ l : List Nat, l.Nodup ∧ (∀ v, v ∈ l ↔ v < n ∧ S v) ∧ ss = (l.map name).mergeSort leB

theorem IsSelf.unique {S S' : Nat → Prop} {ss ts : List (List UInt8)} (h : IsSelf name n S ss) (k : IsSelf name n S' ts) (hS : ∀ v, v < n → (S v ↔ S' v)) : ss = ts := by
  obtain ⟨l, h1, h2, rfl⟩ := h
  obtain ⟨m, k1, k2, rfl⟩ := k
  refine mergeSort_of_perm (List.Perm.map name ?_)
  rw [List.perm_ext_iff_of_nodup h1 k1]
  intro v
  rw [h2, k2]
  constructor
  · rintro ⟨a, b⟩; exact ⟨a, (hS v a).1 b⟩
  · rintro ⟨a, b⟩; exact ⟨a, (hS v a).2 b⟩

theorem nodup_of_flatten {cs : List (List Nat)} (h : cs.flatten.Nodup) {c : List Nat} (hc : c ∈ cs) : c.Nodup := by
  induction cs with
  | nil => simp at hc
  | cons d r ih =>
    rw [List.flatten_cons] at h
    rcases List.mem_cons.1 hc with rfl | hc
    · exact (List.nodup_append.1 h).1
    · exact ih (List.nodup_append.1 h).2.1 hc

/-- The components that the search has found give the groups. -/
theorem groups_of_comps (hinj : ∀ u v, u < n → v < n → name u = name v → u = v) {adj : Nat → List Nat} {cs : List (List Nat)} (hn : cs.flatten.Nodup) (hm : ∀ v, v ∈ cs.flatten ↔ v < n)
    (hs : ∀ c ∈ cs, (∀ u ∈ c, ∀ v ∈ c, Reach adj u v) ∧ ∀ u ∈ c, ∀ v, Reach adj u v → Reach adj v u → v ∈ c) {gs : List (List (List UInt8))} (hp : gs.Perm ((cs.filter fun c => decide (1 < c.length)).map fun c => (c.map name).mergeSort leB))
    (hsort : gs.Pairwise (fun a b => a.headD [] ≤ b.headD [])) : IsGroups name n (fun u v => Reach adj u v ∧ Reach adj v u) gs where
  each g hg := by
    rw [hp.mem_iff, List.mem_map] at hg
    obtain ⟨c, hc, rfl⟩ := hg
    rw [List.mem_filter] at hc
    obtain ⟨hc, hl⟩ := hc
    have hl' : 1 < c.length := by simpa using hl
    exact ⟨c, nodup_of_flatten hn hc, hl', fun v hv => (hm v).1 (List.mem_flatten.2 ⟨c, hc, hv⟩), rfl, fun u hu v hv => ⟨(hs c hc).1 u hu v hv, (hs c hc).1 v hv u hu⟩, fun u hu v _ hM => (hs c hc).2 u hu v hM.1 hM.2⟩
  all u v hu hv hne hM := by
    obtain ⟨c, hc, huc⟩ := List.mem_flatten.1 ((hm u).2 hu)
    have hvc := (hs c hc).2 u huc v hM.1 hM.2
    refine ⟨(c.map name).mergeSort leB, ?_, mem_sorted_map.2 ⟨u, huc, rfl⟩⟩
    rw [hp.mem_iff, List.mem_map]
    refine ⟨c, List.mem_filter.2 ⟨hc, ?_⟩, rfl⟩
    simp only [decide_eq_true_eq]
    match c, huc, hvc with
    | [x], huc, hvc =>
      simp at huc hvc
      exact absurd (huc.trans hvc.symm) hne
    | x :: y :: r, _, _ => simp
  sorted := hsort
  nodup := by
    rw [hp.nodup_iff]
    have hpw : cs.Pairwise (fun a b => ∀ x ∈ a, ∀ y ∈ b, x ≠ y) := (List.pairwise_flatten.1 hn).2
    have hpf := hpw.sublist (List.filter_sublist (p := fun c => decide (1 < c.length)))
    unfold List.Nodup
    rw [List.pairwise_map]
    refine hpf.imp_of_mem fun {a b} ha hb hab he => ?_
    rw [List.mem_filter] at ha hb
    have ha1 : 1 < a.length := by simpa using ha.2
    obtain ⟨x, hx⟩ : ∃ x, x ∈ a := List.exists_mem_of_length_pos (by omega)
    have hx' : name x ∈ (a.map name).mergeSort leB := mem_sorted_map.2 ⟨x, hx, rfl⟩
    rw [he] at hx'
    obtain ⟨y, hy, e⟩ := mem_sorted_map.1 hx'
    have hxn : x < n := (hm x).1 (List.mem_flatten.2 ⟨a, ha.1, hx⟩)
    have hyn : y < n := (hm y).1 (List.mem_flatten.2 ⟨b, hb.1, hy⟩)
    exact hab x hx y hy (hinj x y hxn hyn e.symm)

theorem self_of_comps {cs : List (List Nat)} (hn : cs.flatten.Nodup) (hm : ∀ v, v ∈ cs.flatten ↔ v < n) (S : Nat → Bool) {ss : List (List UInt8)} (he : ss = ((cs.flatten.filter S).map name).mergeSort leB) : IsSelf name n (fun v => S v = true) ss :=
  ⟨cs.flatten.filter S, hn.filter _, fun v => by rw [List.mem_filter, hm], he⟩
end
end Go.Proofs.Qxb6616078a.Tj
