/- slices.SortFunc over the groups. -/
import Derived.Test.Qxb6616078aKeep
import Derived.Test.Qxb6616078aCmp
import Derived.Shelf.SlSortCmp.NoneTotal
namespace Go.Proofs.Qxb6616078a
open Go.RowKit Go.Lib Go.Sort Go.Shelf

theorem compare_lt : ∀ a b : List UInt8, compareBytes a b < 0 ↔ a < b
  | [], [] => by simp [compareBytes]
  | [], _ :: _ => by simp [compareBytes]
  | _ :: _, [] => by simp [compareBytes]
  | a :: ra, b :: rb => by
    unfold compareBytes
    rw [List.cons_lt_cons_iff, ← compare_lt ra rb]
    by_cases h1 : a < b
    · simp [h1]
    · by_cases h2 : b < a
      · have : a ≠ b := fun e => by subst e; exact h1 h2
        simp [h1, h2, this]
      · have : a = b := UInt8.le_antisymm (UInt8.not_lt.1 h2) (UInt8.not_lt.1 h1)
        simp [this]

theorem swo_by {α : Type} (f : α → List UInt8) : SWO (ltOf fun x y : α => compareBytes (f x) (f y)) where
  irrefl x := by
    have := List.lt_irrefl (f x)
    simp only [ltOf, compare_lt, decide_eq_false_iff_not]
    exact this
  trans x y z h1 h2 := by
    simp only [ltOf, compare_lt, decide_eq_true_eq] at *
    exact List.lt_trans h1 h2
  ntrans x y z h1 h2 := by
    simp only [ltOf, compare_lt, decide_eq_false_iff_not] at *
    rw [List.not_lt] at *
    exact List.le_trans h2 h1

theorem sw_chg {α : Type} [Inhabited α] (enc : α → Value) (w : World) (g off n : Nat) (d : Array α) (os : Array Obj) : Chg (fun k => k = g) w (sortWorld enc w g off n d os) := by
  refine ⟨rfl, rfl, rfl, by simp [sortWorld, grow, putRow, mapBlock, Sort.ahead], fun k hk hne => ?_⟩
  unfold sortWorld
  rw [heap_grow_old _ _ (by simpa [putRow, mapBlock, Sort.ahead] using hk)]
  have : g ≠ k := fun e => hne e.symm
  simp [putRow, mapBlock, Sort.ahead, Array.getElem?_modify, this]

theorem sw_heap {α : Type} [Inhabited α] (enc : α → Value) {w : World} {g n : Nat} {os : Array Obj} {cur : Array Value} {e : TypeId} {fr : Nat × Nat} (d : Array α) (hb : w.heap[g]? = some (.cells cur e fr)) :
    (sortWorld enc w g 0 n d os).heap[g]? = some (.cells (putCells enc 0 d cur) e fr) := by
  have hlt := lt_of_block hb
  unfold sortWorld
  rw [heap_grow_old _ _ (by simpa [putRow, mapBlock, Sort.ahead] using hlt)]
  simp [putRow, mapBlock, Sort.ahead, Array.getElem?_modify, hb, onCells]

theorem extract_all {α : Type} (d : Array α) (n : Nat) (h : d.size = n) : d.extract 0 n = d := by
  subst h
  exact Array.extract_size

theorem take_put {α : Type} [Inhabited α] (enc : α → Value) (cur : Array Value) (d : Array α) (n : Nat) (hn : d.size = n) (h : d.size ≤ cur.size) : (putCells enc 0 d cur).toList.take n = d.toList.map enc := by
  subst hn
  apply List.ext_getElem?
  intro j
  by_cases hj : j < d.size
  · rw [List.getElem?_take_of_lt hj, Array.getElem?_toList]
    simp [putCells, hj, show j < cur.size by omega]
  · rw [List.getElem?_take_eq_none (by omega), List.getElem?_eq_none (by simp; omega)]

/-- The groups as the search leaves them. -/
structure GR (w : World) (base : Nat) (v : Value) (hdrs : List Value) (grps : List (List (List UInt8))) : Prop where
  row : w.ownsRow base 22 1 v hdrs.length hdrs
  len : hdrs.length = grps.length
  rows : ∀ (i : Nat) (h : Value) (g : List (List UInt8)), hdrs[i]? = some h → grps[i]? = some g → ∃ b cap, h = .slice (some ⟨b, 0, none⟩) g.length cap ∧ v.ownBlock ≠ some b ∧ w.ownsRow base 9 1 h g.length (g.map encStr)

/-- Behind the sort. -/
def SortRes (w : World) (base : Nat) (v : Value) (hdrs : List Value) (grps : List (List (List UInt8))) (e : Ending) (w' : World) : Prop := e = .returned (.tuple #[]) ∧ Chg (fun k => v.ownBlock = some k) w w' ∧ ∃ hdrs' grps', GR w' base v hdrs' grps' ∧ hdrs'.length = hdrs.length ∧ (∀ h ∈ hdrs', h ∈ hdrs) ∧ grps'.Perm grps ∧ grps'.Pairwise (fun a b => a.headD [] ≤ b.headD [])

theorem perm_map_range {α : Type} (l : List α) (z : α) (σ : List Nat) (h : σ.Perm (List.range l.length)) : (σ.map fun i => l.getD i z).Perm l := by
  have h1 := h.map fun i => l.getD i z
  have h2 : (List.range l.length).map (fun i => l.getD i z) = l := by
    apply List.ext_getElem
    · simp
    · intro i h1 h2
      simp [List.getD_eq_getElem?_getD, List.getElem?_eq_getElem h2]
  rw [h2] at h1
  exact h1

set_option maxRecDepth 100000 in
theorem sort45 (w : World) (base : Nat) (v : Value) (hdrs : List Value) (grps : List (List (List UInt8))) (h : GR w base v hdrs grps) (hne : ∀ g ∈ grps, g ≠ []) (hm : grps.length ≤ 1048576) : Calls Try.prog 45 #[v, .func (.func 46) #[] #[]] w (SortRes w base v hdrs grps) := by
  have hlen := h.len
  by_cases h0 : grps.length = 0
  · have hg : grps = [] := List.eq_nil_of_length_eq_zero h0
    have hh : hdrs = [] := List.eq_nil_of_length_eq_zero (by omega)
    subst hg
    subst hh
    obtain ⟨p, c, rfl⟩ : ∃ p c, v = .slice p 0 c := by
      rcases Row.look h.row with ⟨hv, _⟩ | ⟨g, cap, hv, _⟩
      · exact ⟨none, 0, hv⟩
      · exact ⟨_, cap, hv⟩
    refine (AnyF.slices_SortFunc_none (P := Try.prog) { Try.laysSlF6_f45 with } p c _ w).mono ?_
    rintro e w' ⟨rfl, rfl⟩
    exact ⟨rfl, Chg.refl _ _, [], [], h, rfl, fun _ h => h, List.Perm.refl _, List.Pairwise.nil⟩
  · rcases Row.look h.row with ⟨_, hn, _⟩ | ⟨g, cap, rfl, hbg, hlt, hle, hcm, hcells, hfree, cur, hcur, hcs, htk⟩
    · omega
    · generalize hmm : hdrs.length = m at *
      have hz : 0 < m := by omega
      letI : Inhabited (Fin m) := ⟨⟨0, hz⟩⟩
      have hat : ∀ i : Fin m, ∃ b cap', hdrs[i.1]'(by omega) = .slice (some ⟨b, 0, none⟩) (grps[i.1]'(by omega)).length cap' ∧ g ≠ b ∧ w.ownsRow base 9 1 (hdrs[i.1]'(by omega)) (grps[i.1]'(by omega)).length ((grps[i.1]'(by omega)).map encStr) := fun i => by
        obtain ⟨b, cap', e1, e2, e3⟩ := h.rows i.1 _ _ (List.getElem?_eq_getElem (by omega)) (List.getElem?_eq_getElem (by omega))
        exact ⟨b, cap', e1, fun e => e2 (by rw [e]; rfl), e3⟩
      let enc : Fin m → Value := fun i => hdrs[i.1]'(by omega)
      let first : Fin m → List UInt8 := fun i => (grps[i.1]'(by omega)).headD []
      let cf : Fin m → Fin m → Int := fun x y => compareBytes (first x) (first y)
      let d : Array (Fin m) := (List.finRange m).toArray
      have hds : d.size = m := by simp [d]
      have hget : ∀ j (hj : j < m), d[j]! = ⟨j, hj⟩ := fun j hj => by
        rw [getElem!_pos d j (by omega)]
        simp [d]
      have hone : OneCell enc := fun i => by
        obtain ⟨b, cap', e1, _⟩ := hat i
        show (hdrs[i.1]'(by omega)).oneCell' = true
        rw [e1]
        rfl
      have hfirst : ∀ (W : World), Chg (fun k => k = g) w W → ∀ i : Fin m, ∃ b cap', enc i = .slice (some ⟨b, 0, none⟩) (grps[i.1]'(by omega)).length cap' ∧ 0 < (grps[i.1]'(by omega)).length ∧ W.cell? ⟨b, 0, none⟩ = some (encStr (first i)) := fun W hW i => by
        obtain ⟨b, cap', e1, e2, e3⟩ := hat i
        have hgne : grps[i.1]'(by omega) ≠ [] := hne _ (List.getElem_mem _)
        refine ⟨b, cap', e1, List.length_pos_iff.2 hgne, ?_⟩
        rw [e1] at e3
        rcases Row.look e3 with ⟨hv, _⟩ | ⟨b', c', hv, _, _, _, _, hcs, _⟩
        · cases hv
        · cases hv
          refine hW.cell (hcs 0 _ ?_) (fun e => e2 e.symm)
          show ((grps[i.1]'(by omega)).map encStr)[0]? = some (encStr ((grps[i.1]'(by omega)).headD []))
          cases hq : grps[i.1]'(by omega) with
          | nil => exact absurd hq hgne
          | cons x r => rfl
      have hcmp : CmpLays1 Try.prog 46 #[] enc cf g 0 d.size w := fun m' os dk hs x y => by
        obtain ⟨b1, c1, e1, p1, q1⟩ := hfirst _ (sw_chg enc w g 0 m' dk os) x
        obtain ⟨b2, c2, e2, p2, q2⟩ := hfirst _ (sw_chg enc w g 0 m' dk os) y
        rw [e1, e2]
        refine (cmp_any b1 _ c1 b2 _ c2 (first x) (first y) _ p1 p2 q1 q2).mono ?_
        rintro e w' ⟨rfl, q, rfl⟩
        exact ⟨rfl, q, #[], by rw [grow_empty]⟩
      have hH : Holds enc w g 0 d := fun j hj => by
        have hj' : j < m := by omega
        rw [hget j hj', Nat.zero_add]
        exact ⟨hcells j _ (List.getElem?_eq_getElem (by omega)), hfree j⟩
      have hcall := Try.slices_SortFunc_f45 enc hone cf (swo_by first) 46 #[] g 0 cap d w (fun args w => by rfl) hcmp hH hlt (by omega)
      rw [hds] at hcall
      refine hcall.mono ?_
      rintro e w' ⟨rfl, d', n, os, hp, hs, rfl⟩
      have hds' : d'.size = m := by rw [hp.1, hds]
      have hperm : d'.toList.Perm d.toList := by
        have := hp.2.2
        rw [extract_all d m hds, extract_all d' m hds'] at this
        exact this
      have hσ : (d'.toList.map Fin.val).Perm (List.range m) := by
        have h4 := hperm.map Fin.val
        have e : d.toList.map Fin.val = List.range m := by
          apply List.ext_getElem
          · simp [d]
          · intro i h1 h2
            simp [d]
        rw [e] at h4
        exact h4
      have hch := sw_chg enc w g 0 n d' os
      refine ⟨rfl, hch.mono (fun b hb => .inl (by rw [hb]; rfl)), d'.toList.map enc, d'.toList.map (fun i => grps[i.1]'(by omega)), ⟨?_, by simp, ?_⟩, by simp [hds', hmm], fun x hx => ?_, ?_, ?_⟩
      · rw [List.length_map, Array.length_toList, hds']
        refine ⟨by simp [hds'], .inr ⟨g, cap, _, rfl, hbg, sw_heap enc d' hcur, hle, hcm, by simp [putCells, hcs], ?_⟩⟩
        rw [Nat.mul_one]
        exact take_put enc cur d' m hds' (by omega)
      · intro i hd' g' h1 h2
        have hi : i < d'.size := by
          have := (List.getElem?_eq_some_iff.1 h1).1
          simpa using this
        simp [hi] at h1 h2
        subst h1
        subst h2
        obtain ⟨b, cap', e1, e2, e3⟩ := hat d'[i]
        refine ⟨b, cap', e1, fun e => e2 (by simpa [Value.ownBlock] using e), Row.chg e3 hch (fun k hk e => ?_)⟩
        have hk' : (hdrs[(d'[i]).1]'(by omega)).ownBlock = some k := hk
        rw [e1] at hk'
        have : b = k := by simpa [Value.ownBlock] using hk'
        exact e2 (by rw [this]; exact e.symm)
      · obtain ⟨i, _, rfl⟩ := List.mem_map.1 hx
        exact List.getElem_mem _
      · have h3 := perm_map_range grps [] (d'.toList.map Fin.val) (by rw [← hlen]; exact hσ)
        rw [List.map_map] at h3
        have e : (d'.toList.map fun i => grps[i.1]'(by omega)) = d'.toList.map ((fun i => grps.getD i []) ∘ Fin.val) := by
          apply List.map_congr_left
          intro x _
          have hx : x.1 < grps.length := by omega
          simp [List.getD_eq_getElem?_getD, hx]
        rw [e]
        exact h3
      · rw [List.pairwise_iff_getElem]
        intro i j hi hj hij
        simp at hi hj
        have := hs i j (Nat.zero_le _) hij (by omega)
        rw [getElem!_pos d' i hi, getElem!_pos d' j hj] at this
        simp only [ltOf, cf, first, compare_lt, decide_eq_false_iff_not] at this
        rw [List.not_lt] at this
        simpa using this
end Go.Proofs.Qxb6616078a
