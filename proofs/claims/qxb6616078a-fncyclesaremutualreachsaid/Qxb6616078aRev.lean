/- reverseDeps. -/
import Derived.Test.Qxb6616078aClone
import Derived.Test.Qxb6616078aRead
import Derived.Test.Qxb6616078aPeel
namespace Go.Proofs.Qxb6616078a
open Go.RowKit Tj

def adjOf (ds : List (List Nat)) (v : Nat) : List Nat := ds.getD v []
theorem adjOf_at {ds : List (List Nat)} {v : Nat} {d : List Nat} (h : ds[v]? = some d) : adjOf ds v = d := by simp [adjOf, List.getD_eq_getElem?_getD, h]

def revAt (adj : Nat → List Nat) (v j x : Nat) : List Nat := revTo adj v x ++ if x ∈ (adj v).take j then [v] else []
theorem revAt_le (adj : Nat → List Nat) (v j x : Nat) : (revAt adj v j x).length ≤ v + 1 := by
  unfold revAt revTo
  rw [List.length_append]
  have := List.length_filter_le (fun u => (adj u).contains x) (List.range v)
  simp at this
  split <;> simp <;> omega
theorem revAt_next (adj : Nat → List Nat) (v x : Nat) : revAt adj v (adj v).length x = revAt adj (v + 1) 0 x := by
  unfold revAt
  rw [revTo_succ]
  simp
theorem revAt_same {adj : Nat → List Nat} {v j x : Nat} (hx : (adj v)[j]? = some x) (hn : (adj v).Nodup) : revAt adj v (j + 1) x = revAt adj v j x ++ [v] := by
  have hnt : x ∉ (adj v).take j := by
    have hj := (List.getElem?_eq_some_iff.1 hx).1
    have := not_mem_take hn hj
    have e : (adj v).getD j 0 = x := by rw [List.getD_eq_getElem?_getD (l := adj v), hx]; rfl
    rw [e] at this
    exact this
  unfold revAt
  rw [List.take_add_one, hx]
  simp [hnt]
theorem revAt_other {adj : Nat → List Nat} {v j x y : Nat} (hx : (adj v)[j]? = some x) (hy : y ≠ x) : revAt adj v (j + 1) y = revAt adj v j y := by
  unfold revAt
  rw [List.take_add_one, hx]
  simp [hy]

structure RV (n : Nat) (adj : Nat → List Nat) (B : Nat) (w wr : World) (v j : Nat) (hs : List Value) : Prop where
  len : hs.length = n
  blk : Blk wr B hs 47
  rows : ∀ (x : Nat) (h : Value), hs[x]? = some h → wr.ownsRow (B + 1) 3 1 h (revAt adj v j x).length (nums (revAt adj v j x))
  apart : ∀ (x y : Nat) (h h' : Value) (k : Nat), hs[x]? = some h → hs[y]? = some h' → h.ownBlock = some k → h'.ownBlock = some k → x = y
  chg : Chg (fun _ => False) w wr

theorem own_ge' {w : World} {base : Nat} {e : TypeId} {v : Value} {n : Nat} {xs : List Value} (h : w.ownsRow base e 1 v n xs) {k : Nat} (hk : v.ownBlock = some k) : base ≤ k ∧ k < w.heap.size := by
  rcases Row.look h with ⟨hv, _⟩ | ⟨g, cap, hv, hg, hl, _⟩
  · subst hv; cases hk
  · subst hv
    have e : g = k := by simpa [Value.ownBlock] using hk
    subst e
    exact ⟨hg, hl⟩

theorem RV.step {n : Nat} {adj : Nat → List Nat} {B : Nat} {w wr : World} {v j : Nat} {hs : List Value} (H : RV n adj B w wr v j hs) {x : Nat} (hx : (adj v)[j]? = some x) (hnd : (adj v).Nodup) {h : Value} (hh : hs[x]? = some h) (hB : w.heap.size ≤ B) {w4 : World} {g cap : Nat}
    (hr : w4.ownsRow (B + 1) 3 1 (.slice (some ⟨g, 0, none⟩) ((revAt adj v j x).length + 1) cap) ((revAt adj v j x).length + 1) (nums (revAt adj v j x) ++ [.int .i64 v])) (hc : Chg (fun k => h.ownBlock = some k) wr w4) (hg : h.ownBlock = some g ∨ wr.heap.size ≤ g) :
    RV n adj B w (w4.setCell ⟨B, x, none⟩ (.slice (some ⟨g, 0, none⟩) ((revAt adj v j x).length + 1) cap)) v (j + 1) (hs.set x (.slice (some ⟨g, 0, none⟩) ((revAt adj v j x).length + 1) cap)) := by
  have hs1 := Chg.setCell w4 ⟨B, x, none⟩ (.slice (some ⟨g, 0, none⟩) ((revAt adj v j x).length + 1) cap)
  have hxl := (List.getElem?_eq_some_iff.1 hh).1
  have hBne : ¬ h.ownBlock = some B := fun e => by have := (own_ge' (H.rows x h hh) e).1; omega
  have hgB : B + 1 ≤ g := (own_ge' hr (k := g) rfl).1
  have hother : ∀ y h', y ≠ x → hs[y]? = some h' → ∀ k, h'.ownBlock = some k → ¬ h.ownBlock = some k := fun y h' hy hh' k hk e => hy (H.apart y x h' h k hh' hh hk e)
  exact {
    len := by rw [List.length_set]; exact H.len
    blk := (H.blk.chg hc hBne).set x _
    rows := fun y h' hy => by
      by_cases e : y = x
      · subst e
        rw [List.getElem?_set_self hxl] at hy
        cases hy
        rw [revAt_same hx hnd]
        have : (nums (revAt adj v j y ++ [v])) = nums (revAt adj v j y) ++ [.int .i64 v] := by simp [nums]
        rw [this, List.length_append]
        exact Row.chg hr hs1 (fun b hb hf => by
          have e1 : g = b := by simpa [Value.ownBlock] using hb
          have e2 : b = B := hf
          omega)
      · rw [List.getElem?_set_ne (fun h => e h.symm)] at hy
        rw [revAt_other hx e]
        exact Row.chg (Row.chg (H.rows y h' hy) hc (fun b hb => hother y h' e hy b hb)) hs1 (fun b hb hf => by
          have := (own_ge' (H.rows y h' hy) hb).1
          have e2 : b = B := hf
          omega)
    apart := fun y z h1 h2 k hy hz hk1 hk2 => by
      by_cases ey : y = x
      · by_cases ez : z = x
        · rw [ey, ez]
        · exfalso
          subst ey
          rw [List.getElem?_set_self hxl] at hy
          cases hy
          rw [List.getElem?_set_ne (fun h => ez h.symm)] at hz
          have e1 : g = k := by simpa [Value.ownBlock] using hk1
          subst e1
          rcases hg with hg | hg
          · exact hother z h2 ez hz g hk2 hg
          · have := (own_ge' (H.rows z h2 hz) hk2).2
            omega
      · by_cases ez : z = x
        · exfalso
          subst ez
          rw [List.getElem?_set_self hxl] at hz
          cases hz
          rw [List.getElem?_set_ne (fun h => ey h.symm)] at hy
          have e1 : g = k := by simpa [Value.ownBlock] using hk2
          subst e1
          rcases hg with hg | hg
          · exact hother y h1 ey hy g hk1 hg
          · have := (own_ge' (H.rows y h1 hy) hk1).2
            omega
        · rw [List.getElem?_set_ne (fun h => ey h.symm)] at hy
          rw [List.getElem?_set_ne (fun h => ez h.symm)] at hz
          exact H.apart y z h1 h2 k hy hz hk1 hk2
    chg := (H.chg.trans hc (fun b hb => .inr (by have := (own_ge' (H.rows x h hh) hb).1; omega))).trans hs1 (fun b hb => .inr (by have e : b = B := hb; omega)) }

theorem RV.next {n : Nat} {adj : Nat → List Nat} {B : Nat} {w wr : World} {v j : Nat} {hs : List Value} (H : RV n adj B w wr v j hs) (hj : j = (adj v).length) : RV n adj B w wr (v + 1) 0 hs where
  len := H.len
  blk := H.blk
  rows x h hh := by
    have := H.rows x h hh
    rw [hj, revAt_next] at this
    exact this
  apart := H.apart
  chg := H.chg

def RevRes (n : Nat) (adj : Nat → List Nat) (w : World) (e : Ending) (w' : World) : Prop := ∃ v', e = .returned v' ∧ Grid w' v' ((List.range n).map fun x => nums (revTo adj n x)) ∧ Chg (fun _ => False) w w'

set_option maxHeartbeats 4000000 in
set_option maxRecDepth 100000 in
theorem rev18 (w : World) (v0 : Value) (ds : List (List Nat)) (h : Grid w v0 (ds.map nums)) (hn : ds.length ≤ 4096) (hl : ∀ d ∈ ds, d.length ≤ 131072) (hnd : ∀ d ∈ ds, d.Nodup) (hlt : ∀ d ∈ ds, ∀ x ∈ d, x < ds.length) : Calls Try.prog 18 #[v0] w (RevRes ds.length (adjOf ds) w) := by
  obtain ⟨a, c, rfl, q⟩ := h.shape
  rw [List.length_map]
  have HB : Hid (∀ i d, ds[i]? = some d → ∃ b o a' c', a = some ⟨b, o, none⟩ ∧ w.cell? ⟨b, o + i, none⟩ = some (.slice a' d.length c') ∧ ∀ (j x : Nat), d[j]? = some x → ∃ b' o', a' = some ⟨b', o', none⟩ ∧ w.cell? ⟨b', o' + j, none⟩ = some (.int .i64 x)) := fun i d hx => by
    obtain ⟨b, o, a', c', e1, e2, e3⟩ := q i (nums d) (by simp [hx])
    rw [nums_length] at e2 e3
    exact ⟨b, o, a', c', e1, e2, fun j z hz => e3.at (by simp [nums, hz])⟩
  have HDl : Hid (∀ d ∈ ds, d.length ≤ 131072) := hl
  have HNd : Hid (∀ d ∈ ds, d.Nodup) := hnd
  generalize hm : ds.length = m at *
  have HLt : Hid (∀ d ∈ ds, ∀ x ∈ d, x < m) := hlt
  have HM : Hid (ds.length = m) := hm
  have mk := mkS23 m (by omega)
  have H0 : Hid (RV m (adjOf ds) w.heap.size w (w.alloc (.cells (Array.replicate m (Value.slice none 0 0)) 47)) 0 0 (List.replicate m (Value.slice none 0 0))) := {
    len := by simp
    blk := by
      have := Blk.new w (List.replicate m (Value.slice none 0 0)) 47
      simpa using this
    rows := fun x h hh => by
      have e : h = .slice none 0 0 := by
        have := List.mem_of_getElem? hh
        exact (List.mem_replicate.1 this).2
      subst e
      have e2 : revAt (adjOf ds) 0 0 x = [] := by simp [revAt, revTo]
      rw [e2]
      exact ⟨rfl, .inl ⟨rfl, rfl⟩⟩
    apart := fun x y h h' k hh _ hk => by
      have e : h = .slice none 0 0 := (List.mem_replicate.1 (List.mem_of_getElem? hh)).2
      subst e
      cases hk
    chg := Chg.alloc _ _ _ }
  clear h q hl hnd hlt hm
  go_enter Try.func18, Try.ntmps18
  go_wp2
  go_loopg [4] m (fun gh s wi => ∃ (v : Nat) (hs : List Value), v ≤ m ∧ gh = m - v ∧ s = .int .i64 v ∧ Hid (RV m (adjOf ds) w.heap.size w wi v 0 hs))
  case atStart => exact ⟨0, _, Nat.zero_le _, rfl, rfl, H0.out⟩
  case round =>
    obtain ⟨v, hs, hv, rfl, rfl, HK⟩ := hrel
    clear H0
    by_cases hvm : v < m
    · have hvz : (v : Int) < (m : Int) := by omega
      obtain ⟨d, hd⟩ : ∃ d, ds[v]? = some d := ⟨_, List.getElem?_eq_getElem (by have := HM.out; omega)⟩
      obtain ⟨b2, o2, a', c', rfl, e2, e3⟩ := HB.out v d hd
      have hdl := HDl.out d (List.mem_of_getElem? hd)
      have HD : Hid (adjOf ds v = d) := adjOf_at hd
      have HDn : Hid (d.Nodup ∧ ∀ x ∈ d, x < m) := ⟨HNd.out d (List.mem_of_getElem? hd), HLt.out d (List.mem_of_getElem? hd)⟩
      have HE2 : Hid (w.cell? ⟨b2, o2 + v, none⟩ = some (.slice a' d.length c')) := e2
      have HE3 : Hid (∀ (j x : Nat), d[j]? = some x → ∃ b' o', a' = some ⟨b', o', none⟩ ∧ w.cell? ⟨b', o' + j, none⟩ = some (.int .i64 x)) := e3
      clear hd e2 e3
      generalize hdd : d.length = l at *
      have HDD : Hid (d.length = l) := hdd
      clear hdd
      go_wp2
      go_loopg [5] l (fun gh s wi => ∃ (j : Nat) (hs : List Value), j ≤ l ∧ gh = l - j ∧ s = .int .i64 j ∧ Hid (RV m (adjOf ds) w.heap.size w wi v j hs))
      case atStart => exact ⟨0, hs, Nat.zero_le _, rfl, rfl, HK.out⟩
      case round =>
        obtain ⟨j, hs, hj, rfl, rfl, HJ⟩ := hrel
        clear HK
        have d2 : wr.cell? ⟨b2, o2 + v, none⟩ = some (.slice a' l c') := HJ.out.chg.cell HE2.out (fun h => h)
        by_cases hjl : j < l
        · have hjz : (j : Int) < (l : Int) := by omega
          obtain ⟨x, hx⟩ : ∃ x, d[j]? = some x := ⟨_, List.getElem?_eq_getElem (by have := HDD.out; omega)⟩
          obtain ⟨b3, o3, rfl, e4⟩ := HE3.out j x hx
          have d3 : wr.cell? ⟨b3, o3 + j, none⟩ = some (.int .i64 x) := HJ.out.chg.cell e4 (fun h => h)
          have hxm := HDn.out.2 x (List.mem_of_getElem? hx)
          have hxz : (x : Int) < (m : Int) := by omega
          obtain ⟨h, hh⟩ : ∃ h, hs[x]? = some h := ⟨_, List.getElem?_eq_getElem (by have := HJ.out.len; omega)⟩
          have d4 := HJ.out.blk.cell hh
          have HX : Hid ((adjOf ds v)[j]? = some x) := by rw [HD.out]; exact hx
          have HH : Hid (hs[x]? = some h) := hh
          have HRow : Hid (wr.ownsRow (w.heap.size + 1) 3 1 h (revAt (adjOf ds) v j x).length (nums (revAt (adjOf ds) v j x))) := HJ.out.rows x h hh
          have hlen := revAt_le (adjOf ds) v j x
          have HLen : Hid ((revAt (adjOf ds) v j x).length ≤ 1048576) := by show _ ≤ _; omega
          have HBase : Hid (w.heap.size + 1 ≤ wr.heap.size) := HJ.out.blk.lt
          clear hx e4 hh hlen
          go_wp2_with (first | (at_builtin; refine stopHere ?_))
          change wpList _ _ _ _ _ _
          refine wp_push (w := wr) ?hg1 (.tmp 37) (.tmp 39) 47 ?hop1 (w.heap.size + 1) 3 Try.underlying47 infoS3 rfl h _ _ ?hs1 HRow.out (.int .i64 v) rfl wr.heap.size ?hx1 (Chg.alloc _ _ _) (cell_alloc1 _ _ _) HLen.out (by decide) HBase.out ?_
          case hg1 => rfl
          case hop1 => rfl
          case hs1 => rfl
          case hx1 => rfl
          intro g cap w4 hr4 hc4 hg4 hb4
          have HS := HJ.out.step HX.out (by rw [HD.out]; exact HDn.out.1) HH.out (Nat.le_refl _) hr4 hc4 hg4
          have hBne : ¬ h.ownBlock = some w.heap.size := fun e => by have := (own_ge' HRow.out e).1; omega
          have d5 := (HJ.out.blk.chg hc4 hBne).cell HH.out
          have f5 := (HJ.out.blk.chg hc4 hBne).free x
          have HS2 : Hid (∃ hs', RV m (adjOf ds) w.heap.size w (w4.setCell ⟨w.heap.size, x, none⟩ (.slice (some ⟨g, 0, none⟩) ((revAt (adjOf ds) v j x).length + 1) cap)) v (j + 1) hs') := ⟨_, HS⟩
          clear HS hr4 hc4 hg4 hb4 hBne d2 d3 d4
          generalize (revAt (adjOf ds) v j x).length + 1 = ln at *
          go_wp2
          go_roundg (l - (j + 1))
          case measure => go_light; omega
          case rel =>
            obtain ⟨hs', hS⟩ := HS2.out
            exact ⟨j + 1, hs', by omega, rfl, by go_num, hS⟩
        · have e : j = l := by omega
          subst e
          have HS : Hid (RV m (adjOf ds) w.heap.size w wr (v + 1) 0 hs) := HJ.out.next (by rw [HD.out, HDD.out])
          go_wp2
          go_roundg (m - (v + 1))
          case measure => go_light; omega
          case rel => exact ⟨v + 1, _, by omega, rfl, by go_num, HS.out⟩
    · have e : v = m := by omega
      subst e
      go_wp2
      go_ret
      refine ⟨.slice (some ⟨w.heap.size, 0, none⟩) v v, rfl, ⟨hs, ⟨_, v, by rw [HK.out.len], .inr ⟨w.heap.size, 0, rfl, fun i x hx => by rw [Nat.zero_add]; exact HK.out.blk.cell hx⟩⟩, by simp [HK.out.len], fun i h xs hh hxs => ?_⟩, HK.out.chg⟩
      have hr := HK.out.rows i h hh
      have e : revAt (adjOf ds) v 0 i = revTo (adjOf ds) v i := by simp [revAt]
      rw [e] at hr
      have hi := (List.getElem?_eq_some_iff.1 hxs).1
      simp at hi
      simp [hi] at hxs
      subst hxs
      exact (Row.sl0 hr).sl
end Go.Proofs.Qxb6616078a
