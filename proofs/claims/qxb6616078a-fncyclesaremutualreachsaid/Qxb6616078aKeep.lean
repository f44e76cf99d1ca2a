/- The closure keeps what components asks of it. -/
import Derived.Test.Qxb6616078aFound
namespace Go.Proofs.Qxb6616078a
open Go.RowKit Tj

def selfsOf (X : XP) (acc : List (List Nat)) : List (List UInt8) := (acc.flatten.filter (isSelf X.A)).map X.nm
def grpsOf (X : XP) (acc : List (List Nat)) : List (List (List UInt8)) := (acc.filter fun c => decide (1 < c.length)).map fun c => (c.map X.nm).mergeSort leB

def FS (X : XP) (w : World) (D : Nat → Prop) (acc : List (List Nat)) : Prop := ∃ vself vgroups hdrs, FCore X w vself vgroups hdrs (selfsOf X acc) (grpsOf X acc) ∧ D = X.Dom vself vgroups hdrs ∧ ∀ x ∈ acc.flatten, x < X.A.n

theorem grps_le (X : XP) : ∀ acc : List (List Nat), (grpsOf X acc).length ≤ acc.flatten.length
  | [] => by simp [grpsOf]
  | c :: r => by
    have ih := grps_le X r
    unfold grpsOf at ih ⊢
    rw [List.length_map] at ih ⊢
    by_cases h : 1 < c.length
    · rw [List.filter_cons_of_pos (by simpa using h)]
      simp at ih ⊢
      omega
    · rw [List.filter_cons_of_neg (by simpa using h)]
      simp at ih ⊢
      omega

theorem keeper (X : XP) (hok : X.A.Ok) (hcl : X.A.st X.A.n ≤ X.A.cl) (hn : X.A.n ≤ 524288) : Keeper (X.b0 + 1) X.A.n (FS X) (.pointer (some ⟨X.b0, 0, none⟩), .pointer (some ⟨X.b0 + 2, 0, none⟩), .pointer (some ⟨X.b0 + 1, 0, none⟩)) where
  stab := by
    rintro w w' D acc G ⟨vs, vg, hd, h, rfl, hx⟩ hc hG
    exact ⟨vs, vg, hd, h.chg hc hG, rfl, hx⟩
  lt := by
    rintro w D acc b ⟨vs, vg, hd, h, rfl, hx⟩ hb
    exact h.lt hb
  found := by
    rintro w D acc g i m c ms ⟨vs, vg, hd, h, rfl, hx⟩ hm hm1 hm2 hcells hgd hN hlt hnd
    have hall : ∀ x ∈ (acc ++ [ms]).flatten, x < X.A.n := by
      intro x hx'
      simp at hx'
      rcases hx' with ⟨l, hl, hx'⟩ | hx'
      · exact hx x (List.mem_flatten.2 ⟨l, hl, hx'⟩)
      · exact hlt x hx'
    have hlen := length_le_of_nodup X.A.n _ hnd hall
    rw [List.flatten_append, List.length_append] at hlen
    simp at hlen
    have h1 : (selfsOf X acc).length ≤ acc.flatten.length := by
      unfold selfsOf
      rw [List.length_map]
      exact List.length_filter_le _ _
    have h2 := grps_le X acc
    have h3 := h.hL
    have e0 : acc.flatten.length = (acc.map List.length).sum := by simp
    refine (found_any X hok hcl w vs vg hd _ _ h g i m c ms hm hm1 hm2 hcells hgd hlt (by omega) (by omega)).mono ?_
    rintro e w' ⟨rfl, vs', vg', hd', hF⟩
    refine ⟨rfl, X.Dom vs' vg' hd', ⟨vs', vg', hd', ?_, rfl, hall⟩, hF.chg, hF.dom⟩
    have e1 : selfsOf X (acc ++ [ms]) = selfsOf X acc ++ (ms.filter (isSelf X.A)).map X.nm := by simp [selfsOf]
    have e2 : grpsOf X (acc ++ [ms]) = if 1 < m then grpsOf X acc ++ [(ms.map X.nm).mergeSort leB] else grpsOf X acc := by
      subst hm
      unfold grpsOf
      by_cases h : 1 < ms.length
      · simp [h]
      · simp [h]
    rw [e1, e2]
    exact hF.core
end Go.Proofs.Qxb6616078a
