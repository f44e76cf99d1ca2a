/- A graph that fits and is well formed; the graph turned round. -/
import Derived.Test.Qxb6616078aCycles
import Derived.Test.Qxb6616078aPeelW
import Derived.Test.Qxb6616078aWell
import Derived.Test.Qxb6616078aBytes
namespace Go.Proofs.Qxb6616078a
open Go.RowKit Tj

structure G (ss : List (List UInt8)) (ds : List (List Nat)) : Prop where
  n : ss.length ≤ 4096
  len : ds.length = ss.length
  names : ss.Nodup
  short : ∀ s ∈ ss, s.length ≤ 1048576
  nodup : ∀ d ∈ ds, d.Nodup
  lt : ∀ d ∈ ds, ∀ x ∈ d, x < ss.length
  sum : (ds.map List.length).sum ≤ 131072

def natRows (dss : List (List Int)) : List (List Nat) := dss.map fun d => d.map Int.toNat

theorem rows_eq {dss : List (List Int)} (h : ∀ d ∈ dss, ∀ z ∈ d, 0 ≤ z) : dss.map ints = (natRows dss).map nums := by
  unfold natRows
  rw [List.map_map]
  apply List.map_congr_left
  intro d hd
  unfold ints nums
  show _ = List.map _ (List.map Int.toNat d)
  rw [List.map_map]
  apply List.map_congr_left
  intro z hz
  have := h d hd z hz
  show Value.int .i64 z = Value.int .i64 ((z.toNat : Nat) : Int)
  rw [Int.toNat_of_nonneg this]

theorem len_le_sum : ∀ (l : List (List Nat)) (d : List Nat), d ∈ l → d.length ≤ (l.map List.length).sum
  | [], d, h => by simp at h
  | e :: r, d, h => by
    rw [List.map_cons, List.sum_cons]
    rcases List.mem_cons.1 h with rfl | h
    · omega
    · have := len_le_sum r d h
      omega

theorem G.of {ss : List (List UInt8)} {dss : List (List Int)} (hw : Well ss dss) (h1 : ss.length ≤ 4096) (h2 : ∀ s ∈ ss, s.length ≤ 1048576) (h3 : ((dss.map ints).map List.length).sum ≤ 131072) : G ss (natRows dss) ∧ dss.map ints = (natRows dss).map nums := by
  have hr := rows_eq (dss := dss) (fun d hd z hz => ((hw.edges d hd).2 z hz).1)
  refine ⟨{ n := h1, len := by unfold natRows; rw [List.length_map]; exact hw.len, names := hw.names, short := h2, nodup := fun d hd => ?_, lt := fun d hd x hx => ?_, sum := ?_ }, hr⟩
  · unfold natRows at hd
    obtain ⟨e, he, rfl⟩ := List.mem_map.1 hd
    have hh := hw.edges e he
    unfold List.Nodup
    rw [List.pairwise_map]
    refine List.Pairwise.imp_of_mem (fun {a b} ha hb hab e => ?_) hh.1
    have := (hh.2 a ha).1
    have := (hh.2 b hb).1
    exact hab (by omega)
  · unfold natRows at hd
    obtain ⟨e, he, rfl⟩ := List.mem_map.1 hd
    obtain ⟨z, hz, rfl⟩ := List.mem_map.1 hx
    have := (hw.edges e he).2 z hz
    omega
  · rw [hr] at h3
    have e : ((natRows dss).map nums).map List.length = (natRows dss).map List.length := by
      rw [List.map_map]
      apply List.map_congr_left
      intro d _
      exact nums_length d
    rw [e] at h3
    exact h3

section
variable {ss : List (List UInt8)} {ds : List (List Nat)}

theorem G.each (h : G ss ds) : ∀ d ∈ ds, d.length ≤ 131072 := fun d hd => Nat.le_trans (len_le_sum ds d hd) h.sum
theorem G.adj (h : G ss ds) : ∀ v, v < ss.length → (adjOf ds v).Nodup ∧ ∀ x ∈ adjOf ds v, x < ss.length := fun v hv => by
  have hv' : v < ds.length := by have := h.len; omega
  rw [adjOf_at (List.getElem?_eq_getElem hv')]
  exact ⟨h.nodup _ (List.getElem_mem hv'), h.lt _ (List.getElem_mem hv')⟩
end

def revs (n : Nat) (ds : List (List Nat)) : List (List Nat) := (List.range n).map fun x => revTo (adjOf ds) n x

theorem adjOf_revs {n : Nat} {ds : List (List Nat)} {v : Nat} (hv : v < n) : adjOf (revs n ds) v = revTo (adjOf ds) n v := adjOf_at (by unfold revs; simp [hv])

theorem sum_add (f g : Nat → Nat) : ∀ l : List Nat, (l.map fun x => f x + g x).sum = (l.map f).sum + (l.map g).sum
  | [] => rfl
  | a :: r => by
    simp only [List.map_cons, List.sum_cons, sum_add f g r]
    omega

theorem sum_ind (p : Nat → Bool) : ∀ l : List Nat, (l.map fun x => if p x then 1 else 0).sum = (l.filter p).length
  | [] => rfl
  | a :: r => by
    rw [List.map_cons, List.sum_cons, sum_ind p r]
    by_cases h : p a
    · rw [List.filter_cons_of_pos h]; simp [h]; omega
    · rw [List.filter_cons_of_neg h]; simp [h]

theorem sum_rev (adj : Nat → List Nat) (n : Nat) (hn : ∀ v, v < n → (adj v).Nodup ∧ ∀ x ∈ adj v, x < n) : ∀ k, k ≤ n → ((List.range n).map fun x => (revTo adj k x).length).sum = ((List.range k).map fun u => (adj u).length).sum
  | 0, _ => by
    have : ∀ l : List Nat, (l.map fun x => (revTo adj 0 x).length).sum = 0 := by
      intro l
      induction l with
      | nil => rfl
      | cons a r ih => rw [List.map_cons, List.sum_cons, ih]; simp [revTo]
    rw [this]
    rfl
  | k + 1, hk => by
    have hkn := hn k (by omega)
    have e : (fun x => (revTo adj (k + 1) x).length) = fun x => (revTo adj k x).length + if (adj k).contains x then 1 else 0 := by
      funext x
      rw [revTo_succ, List.length_append]
      by_cases h : x ∈ adj k <;> simp [h]
    rw [e, sum_add, sum_rev adj n hn k (by omega), sum_ind, List.range_succ, List.map_append, List.sum_append]
    have hp : ((List.range n).filter fun x => (adj k).contains x).Perm (adj k) := by
      rw [List.perm_ext_iff_of_nodup (List.Pairwise.filter _ List.nodup_range) hkn.1]
      intro a
      simp only [List.mem_filter, List.mem_range, List.contains_eq_mem, decide_eq_true_eq]
      exact ⟨fun h => h.2, fun h => ⟨hkn.2 a h, h⟩⟩
    rw [hp.length_eq]
    simp

theorem G.rev {ss : List (List UInt8)} {ds : List (List Nat)} (h : G ss ds) : G ss (revs ss.length ds) where
  n := h.n
  len := by simp [revs]
  names := h.names
  short := h.short
  nodup d hd := by
    unfold revs at hd
    obtain ⟨x, _, rfl⟩ := List.mem_map.1 hd
    exact revTo_nodup _ _ _
  lt d hd x hx := by
    unfold revs at hd
    obtain ⟨y, _, rfl⟩ := List.mem_map.1 hd
    exact (mem_revTo.1 hx).1
  sum := by
    unfold revs
    rw [List.map_map]
    have := sum_rev (adjOf ds) ss.length h.adj ss.length (Nat.le_refl _)
    have e : ((List.range ss.length).map fun u => (adjOf ds u).length) = ds.map List.length := by
      apply List.ext_getElem
      · simp [h.len]
      · intro i h1 h2
        have hi : i < ds.length := by simpa using h2
        simp only [List.getElem_map, List.getElem_range]
        rw [adjOf_at (List.getElem?_eq_getElem hi)]
    rw [e] at this
    show ((List.range ss.length).map fun x => (revTo (adjOf ds) ss.length x).length).sum ≤ 131072
    rw [this]
    exact h.sum

/-- Cycles of the graph and of the graph turned round are the same. -/
theorem G.same {ss : List (List UInt8)} {ds : List (List Nat)} (h : G ss ds) {gs gs' : List (List (List UInt8))} {sl sl' : List (List UInt8)}
    (h1 : IsGroups (fun v => ss.getD v []) ss.length (fun u v => Tj.Reach (adjOf ds) u v ∧ Tj.Reach (adjOf ds) v u) gs) (h2 : IsGroups (fun v => ss.getD v []) ss.length (fun u v => Tj.Reach (adjOf (revs ss.length ds)) u v ∧ Tj.Reach (adjOf (revs ss.length ds)) v u) gs')
    (k1 : IsSelf (fun v => ss.getD v []) ss.length (fun v => v ∈ adjOf ds v) sl) (k2 : IsSelf (fun v => ss.getD v []) ss.length (fun v => v ∈ adjOf (revs ss.length ds) v) sl') : gs = gs' ∧ sl = sl' := by
  have hr : ∀ u, u < ss.length → ∀ v, v ∈ adjOf (revs ss.length ds) u ↔ v < ss.length ∧ u ∈ adjOf ds v := fun u hu v => by
    rw [adjOf_revs hu, mem_revTo]
  have hinj : ∀ u v, u < ss.length → v < ss.length → ss.getD u [] = ss.getD v [] → u = v := fun u v hu hv he => by
    rw [List.getD_eq_getElem?_getD, List.getD_eq_getElem?_getD, List.getElem?_eq_getElem hu, List.getElem?_eq_getElem hv] at he
    exact nodup_inj h.names hu hv he
  constructor
  · refine IsGroups.unique hinj h1 (h2.iff fun u v hu hv => ?_)
    exact (both_rev (fun u hu => (h.adj u hu).2) hr hu hv).symm
  · refine k1.unique k2 (fun v hv => ?_)
    rw [hr v hv v]
    exact ⟨fun h => ⟨hv, h⟩, fun h => h.2⟩

/-- They report something where the graph is not acyclic, and only there. -/
theorem found_iff {ss : List (List UInt8)} {adj : Nat → List Nat} {gs : List (List (List UInt8))} {sl : List (List UInt8)} (h1 : IsGroups (fun v => ss.getD v []) ss.length (fun u v => Tj.Reach adj u v ∧ Tj.Reach adj v u) gs) (k1 : IsSelf (fun v => ss.getD v []) ss.length (fun v => v ∈ adj v) sl) : (gs.length = 0 ∧ sl.length = 0) ↔ Acyclic ss.length adj := by
  constructor
  · rintro ⟨hg, hs⟩
    have eg : gs = [] := List.eq_nil_of_length_eq_zero hg
    obtain ⟨l, _, k3, k4⟩ := k1
    have el : l = [] := by
      have := congrArg List.length k4
      rw [hs] at this
      simp at this
      exact List.eq_nil_of_length_eq_zero this.symm
    refine ⟨fun v hv hm => ?_, fun u v hu hv hne hM => ?_⟩
    · have := (k3 v).2 ⟨hv, hm⟩
      rw [el] at this
      simp at this
    · obtain ⟨g, hg, _⟩ := h1.all u v hu hv hne hM
      rw [eg] at hg
      simp at hg
  · rintro ⟨ha, hb⟩
    constructor
    · cases gs with
      | nil => rfl
      | cons g r =>
        exfalso
        obtain ⟨c, c1, c2, c3, _, c5, _⟩ := h1.each g (by simp)
        match c, c1, c2, c3, c5 with
        | u :: v :: t, c1, c2, c3, c5 =>
          have hne : u ≠ v := by
            intro e
            subst e
            exact (List.nodup_cons.1 c1).1 (by simp)
          exact hb u v (c3 u (by simp)) (c3 v (by simp)) hne (c5 u (by simp) v (by simp))
    · obtain ⟨l, _, k3, k4⟩ := k1
      have el : l = [] := by
        cases l with
        | nil => rfl
        | cons x r =>
          exfalso
          have := (k3 x).1 (by simp)
          exact ha x this.1 this.2
      rw [k4, el]
      simp

theorem self_len {ss : List (List UInt8)} {S : Nat → Prop} {sl : List (List UInt8)} (k : IsSelf (fun v => ss.getD v []) ss.length S sl) : sl.length ≤ ss.length := by
  obtain ⟨l, k1, k2, k3⟩ := k
  rw [k3, List.length_mergeSort, List.length_map]
  exact nodup_le ss.length l k1 (fun x hx => ((k2 x).1 hx).1)

theorem group_len {ss : List (List UInt8)} {M : Nat → Nat → Prop} {gs : List (List (List UInt8))} (h : IsGroups (fun v => ss.getD v []) ss.length M gs) : ∀ g ∈ gs, g.length ≤ ss.length := fun g hg => by
  obtain ⟨c, c1, _, c3, rfl, _⟩ := h.each g hg
  rw [List.length_mergeSort, List.length_map]
  exact nodup_le ss.length c c1 c3
end Go.Proofs.Qxb6616078a
