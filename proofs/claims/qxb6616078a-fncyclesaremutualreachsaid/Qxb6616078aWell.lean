/- graphWellFormed. -/
import Derived.Test.Qxb6616078aMaps
import Derived.Test.Qxb6616078aClone
import Derived.Test.Qxb6616078aTarjan
namespace Go.Proofs.Qxb6616078a
open Go.RowKit Go.Maps

def ints (d : List Int) : List Value := d.map fun z => .int .i64 z

/-- What graphWellFormed asks. -/
structure Well (ss : List (List UInt8)) (dss : List (List Int)) : Prop where
  len : dss.length = ss.length
  names : ss.Nodup
  edges : ∀ d ∈ dss, d.Nodup ∧ ∀ z ∈ d, 0 ≤ z ∧ z < (ss.length : Int)

def WellRes (ss : List (List UInt8)) (dss : List (List Int)) (w : World) (e : Ending) (w' : World) : Prop := Chg (fun _ => False) w w' ∧ ∃ r, e = .returned (.bool r) ∧ (r = true → Well ss dss)

/-- The map of names seen. -/
structure SeenAt (ss : List (List UInt8)) (B : Nat) (w wr : World) (k : Nat) (D : DataW Value) : Prop where
  own : wr.ownsMap Try.prog 9 raw B k D
  look : ∀ s, D.atKey (kl s) (.held (.bool false)) = .held (.bool (decide (s ∈ ss.take k)))
  nodup : (ss.take k).Nodup
  chg : Chg (fun _ => False) w wr

theorem SeenAt.step {ss : List (List UInt8)} {B : Nat} {w wr : World} {k : Nat} {D : DataW Value} (h : SeenAt ss B w wr k D) {s : List UInt8} (hs : ss[k]? = some s) (hns : s ∉ ss.take k) (hB : w.heap.size ≤ B) {w2 : World} (hown : w2.ownsMap Try.prog 9 raw B (k + 1) (D.put (kl s) (.held (.bool true)))) (hg : wr.grownBy w2 (some B)) : SeenAt ss B w w2 (k + 1) (D.put (kl s) (.held (.bool true))) where
  own := hown
  look t := by
    rw [List.take_add_one, hs]
    by_cases c : t = s
    · subst c
      rw [Maps.atKey_put_same h.own.isMap (kl_key t)]
      simp
    · rw [Maps.atKey_put_other (fun e => c (kl_inj e)), h.look t]
      simp [c]
  nodup := by
    rw [List.take_add_one, hs]
    refine List.nodup_append.2 ⟨h.nodup, by simp, fun a ha b hb e => ?_⟩
    simp at hb
    exact hns (hb ▸ e ▸ ha)
  chg := h.chg.trans (Chg.grown hg) (fun b hb => .inr (by
    have e : b = B := by simpa using hb
    omega))

/-- The marks: of the vertices below v all edges stand; of v's, the first j. -/
structure MarkAt (n : Nat) (dss : List (List Int)) (B : Nat) (w wr : World) (v j : Nat) (f : Nat → Nat) : Prop where
  blk : Blk wr B (numRow n f) 3
  le : ∀ x, f x ≤ v + 1
  look : ∀ d, dss[v]? = some d → ∀ x, x < n → (f x = v + 1 ↔ (x : Int) ∈ d.take j)
  lowz : j = 0 → ∀ x, f x ≤ v
  cur : ∀ d, dss[v]? = some d → (d.take j).Nodup ∧ ∀ z ∈ d.take j, 0 ≤ z ∧ z < (n : Int)
  past : ∀ i d, i < v → dss[i]? = some d → d.Nodup ∧ ∀ z ∈ d, 0 ≤ z ∧ z < (n : Int)
  chg : Chg (fun _ => False) w wr

theorem MarkAt.step {n : Nat} {dss : List (List Int)} {B : Nat} {w wr : World} {v j : Nat} {f : Nat → Nat} (h : MarkAt n dss B w wr v j f) {d : List Int} (hd : dss[v]? = some d) {x : Nat} (hx : d[j]? = some (x : Int)) (hxn : x < n) (hf : f x ≠ v + 1) (hB : w.heap.size ≤ B) :
    MarkAt n dss B w (wr.setCell ⟨B, x, none⟩ (.int .i64 ((v + 1 : Nat) : Int))) v (j + 1) (Tj.upd f x (v + 1)) where
  blk := by
    have := h.blk.set x (.int .i64 ((v + 1 : Nat) : Int))
    rw [numRow_set] at this
    exact this
  le y := by
    by_cases e : y = x
    · subst e; rw [Tj.upd_same]; omega
    · rw [Tj.upd_other f _ e]; exact h.le y
  look d' hd' y hy := by
    rw [hd] at hd'
    cases hd'
    rw [List.take_add_one, hx]
    by_cases e : y = x
    · subst e
      rw [Tj.upd_same]
      simp
    · rw [Tj.upd_other f _ e, h.look d hd y hy]
      have : ¬ (y : Int) = (x : Int) := by omega
      simp [this]
  lowz e := by omega
  cur d' hd' := by
    rw [hd] at hd'
    cases hd'
    rw [List.take_add_one, hx]
    have hc := h.cur d hd
    refine ⟨List.nodup_append.2 ⟨hc.1, by simp, fun a ha b hb e => ?_⟩, fun z hz => ?_⟩
    · simp at hb
      exact hf ((h.look d hd x hxn).2 (hb ▸ e ▸ ha))
    · rcases List.mem_append.1 hz with hz | hz
      · exact hc.2 z hz
      · simp at hz
        subst hz
        omega
  past := h.past
  chg := h.chg.trans (Chg.setCell wr ⟨B, x, none⟩ _) (fun b hb => .inr (by have e : b = B := hb; omega))

theorem MarkAt.next {n : Nat} {dss : List (List Int)} {B : Nat} {w wr : World} {v j : Nat} {f : Nat → Nat} (h : MarkAt n dss B w wr v j f) {d : List Int} (hd : dss[v]? = some d) (hj : j = d.length) : MarkAt n dss B w wr (v + 1) 0 f where
  blk := h.blk
  le x := Nat.le_succ_of_le (h.le x)
  look d' _ x _ := by
    have := h.le x
    constructor
    · intro e; omega
    · intro e; simp at e
  lowz _ x := h.le x
  cur d' _ := by simp
  past i d' hi hd' := by
    by_cases e : i = v
    · subst e
      rw [hd] at hd'
      cases hd'
      have := h.cur d hd
      rw [hj, List.take_length] at this
      exact this
    · exact h.past i d' (by omega) hd'
  chg := h.chg

set_option maxHeartbeats 4000000 in
set_option maxRecDepth 100000 in
theorem well9 (w : World) (v1 v2 : Value) (ss : List (List UInt8)) (dss : List (List Int)) (h1 : Sl w v1 (ss.map encStr)) (h2 : Grid w v2 (dss.map ints)) (hn : ss.length ≤ 4096) (hl : ∀ s ∈ ss, s.length ≤ 1048576) (hd : ∀ d ∈ dss, d.length ≤ 131072) : Calls Try.prog 9 #[v1, v2] w (WellRes ss dss w) := by
  obtain ⟨a1, c1, rfl⟩ := h1.shape
  obtain ⟨a2, c2, rfl, q2⟩ := h2.shape
  clear h2
  rw [List.length_map] at h1 ⊢
  rw [List.length_map]
  have HA : Hid (∀ i s, ss[i]? = some s → ∃ b o, a1 = some ⟨b, o, none⟩ ∧ w.cell? ⟨b, o + i, none⟩ = some (encStr s)) := fun i s hs => h1.at (by simp [hs])
  have HB : Hid (∀ i d, dss[i]? = some d → ∃ b o a' c', a2 = some ⟨b, o, none⟩ ∧ w.cell? ⟨b, o + i, none⟩ = some (.slice a' d.length c') ∧ ∀ (j : Nat) (z : Int), d[j]? = some z → ∃ b' o', a' = some ⟨b', o', none⟩ ∧ w.cell? ⟨b', o' + j, none⟩ = some (.int .i64 z)) := fun i d hx => by
    obtain ⟨b, o, a', c', e1, e2, e3⟩ := q2 i (ints d) (by simp [hx])
    have el : (ints d).length = d.length := by simp [ints]
    rw [el] at e2 e3
    exact ⟨b, o, a', c', e1, e2, fun j z hz => e3.at (by simp [ints, hz])⟩
  have HL : Hid (∀ s ∈ ss, s.length ≤ 1048576) := hl
  have HDl : Hid (∀ d ∈ dss, d.length ≤ 131072) := hd
  by_cases hne : dss.length = ss.length
  case neg =>
    have hz : ¬ ((dss.length : Int) = (ss.length : Int)) := by omega
    clear h1 q2 hl hd
    generalize ss.length = m at *
    generalize dss.length = n at *
    go_enter Try.func9, Try.ntmps9
    go_wp2
    go_ret
    exact ⟨Chg.refl _ _, false, rfl, fun h => by cases h⟩
  case pos =>
  rw [hne]
  have HN : Hid (dss.length = ss.length) := hne
  generalize hm : ss.length = m at *
  have HM : Hid (ss.length = m) := hm
  have mm := make_sized 41 ⟨_, _, Try.underlying41⟩ m
  have mk := mkS47 m (by omega)
  have H0 : Hid (SeenAt ss w.heap.size w (w.alloc (.map #[] 0)) 0 (.map [])) := ⟨World.ownsMap_made w Try.prog 9 raw, fun s => rfl, by simp, Chg.alloc _ _ _⟩
  clear h1 q2 hl hd hne hm
  go_enter Try.func9, Try.ntmps9
  go_upto_block 0 with (fail)
  go_cut [7] (fun _ wc => Hid (ss.Nodup ∧ Chg (fun _ => False) w wc))
  case first =>
    go_wp2
    go_loopg [7] m (fun gh s wi => ∃ (k : Nat) (D : DataW Value), k ≤ m ∧ gh = m - k ∧ s = .int .i64 k ∧ Hid (SeenAt ss w.heap.size w wi k D))
    case atStart => exact ⟨0, _, Nat.zero_le _, rfl, rfl, H0.out⟩
    case round =>
      obtain ⟨k, D, hk, rfl, rfl, HD⟩ := hrel
      clear H0
      by_cases hkm : k < m
      · have hkz : (k : Int) < (m : Int) := by omega
        obtain ⟨s, hs⟩ : ∃ s, ss[k]? = some s := ⟨_, List.getElem?_eq_getElem (by have := HM.out; omega)⟩
        obtain ⟨b, o, rfl, e1⟩ := HA.out k s hs
        have d1 : wr.cell? ⟨b, o + k, none⟩ = some (encStr s) := HD.out.chg.cell e1 (fun h => h)
        have hsl := HL.out s (List.mem_of_getElem? hs)
        have hlook := look_any 41 4 Try.underlying41 HD.out.own s hsl (.bool false) (fun w => by kernel_rfl) _ (HD.out.look s)
        by_cases hin : s ∈ ss.take k
        · rw [decide_eq_true hin] at hlook
          clear hs e1 hin hsl
          go_wp2
          go_ret
          exact ⟨HD.out.chg, false, rfl, fun h => by cases h⟩
        · rw [decide_eq_false hin] at hlook
          obtain ⟨w2, hrun, hown, hgr⟩ := store_any 41 4 Try.underlying41 HD.out.own (by omega) s hsl (.bool true)
          have HS : Hid (SeenAt ss w.heap.size w w2 (k + 1) (D.put (kl s) (.held (.bool true)))) := HD.out.step hs hin (Nat.le_refl _) hown hgr
          clear hs e1 hown hgr hin hsl
          go_wp2
          go_roundg (m - (k + 1))
          case measure => go_light; omega
          case rel => exact ⟨k + 1, _, by omega, rfl, by go_num, HS.out⟩
      · have e : k = m := by omega
        subst e
        have HNd : Hid (ss.Nodup) := by
          have := HD.out.nodup
          rw [List.take_of_length_le (by have := HM.out; omega)] at this
          exact this
        go_wp2
        go_meet
        case rel => exact ⟨HNd.out, HD.out.chg⟩
  case rest =>
    have HC := hcut
    clear H0 hcut
    have HMk : Hid (MarkAt m dss wc.heap.size w (wc.alloc (.cells (Array.replicate m (.int .i64 0)) 3)) 0 0 (fun _ => 0)) := {
      blk := by
        have := Blk.new wc (numRow m fun _ => 0) 3
        have e : (numRow m fun _ => 0) = List.replicate m (.int .i64 0) := by
          unfold numRow
          apply List.ext_getElem <;> simp
        rw [e] at this ⊢
        simpa using this
      le := fun x => by omega
      look := fun d _ x _ => by simp
      lowz := fun _ x => Nat.le_refl _
      cur := fun d _ => by simp
      past := fun i d hi => absurd hi (Nat.not_lt_zero _)
      chg := HC.out.2.trans (Chg.alloc (fun _ => False) _ _) (fun _ h => h.elim) }
    have hsz : w.heap.size ≤ wc.heap.size := HC.out.2.size
    go_upto_block 2 with (fail)
    obtain ⟨B, hB⟩ : ∃ B, B = wc.heap.size := ⟨_, rfl⟩
    rw [← hB] at HMk hsz
    rw [← hB]
    clear hB mm mk
    go_wp2
    go_loopg [9] m (fun gh s wi => ∃ (v : Nat) (f : Nat → Nat), v ≤ m ∧ gh = m - v ∧ s = .int .i64 v ∧ Hid (MarkAt m dss B w wi v 0 f))
    case atStart => exact ⟨0, _, Nat.zero_le _, rfl, rfl, HMk.out⟩
    case round =>
      obtain ⟨v, f, hv, rfl, rfl, HK⟩ := hrel
      clear HMk
      by_cases hvm : v < m
      · have hvz : (v : Int) < (m : Int) := by omega
        obtain ⟨d, hd⟩ : ∃ d, dss[v]? = some d := ⟨_, List.getElem?_eq_getElem (by have := HN.out; omega)⟩
        obtain ⟨b2, o2, a', c', rfl, e2, e3⟩ := HB.out v d hd
        have hdl := HDl.out d (List.mem_of_getElem? hd)
        have HD : Hid (dss[v]? = some d) := hd
        have HE2 : Hid (w.cell? ⟨b2, o2 + v, none⟩ = some (.slice a' d.length c')) := e2
        have HE3 : Hid (∀ (j : Nat) (z : Int), d[j]? = some z → ∃ b' o', a' = some ⟨b', o', none⟩ ∧ w.cell? ⟨b', o' + j, none⟩ = some (.int .i64 z)) := e3
        clear hd e2 e3
        generalize hdd : d.length = l at *
        have HDD : Hid (d.length = l) := hdd
        clear hdd
        go_wp2
        go_loopg [10] l (fun gh s wi => ∃ (j : Nat) (f : Nat → Nat), j ≤ l ∧ gh = l - j ∧ s = .int .i64 j ∧ Hid (MarkAt m dss B w wi v j f))
        case atStart => exact ⟨0, f, Nat.zero_le _, rfl, rfl, HK.out⟩
        case round =>
          obtain ⟨j, f, hj, rfl, rfl, HJ⟩ := hrel
          clear HK
          have d2 : wr.cell? ⟨b2, o2 + v, none⟩ = some (.slice a' l c') := HJ.out.chg.cell HE2.out (fun h => h)
          by_cases hjl : j < l
          · have hjz : (j : Int) < (l : Int) := by omega
            obtain ⟨z, hz⟩ : ∃ z, d[j]? = some z := ⟨_, List.getElem?_eq_getElem (by have := HDD.out; omega)⟩
            obtain ⟨b3, o3, rfl, e4⟩ := HE3.out j z hz
            have d3 : wr.cell? ⟨b3, o3 + j, none⟩ = some (.int .i64 z) := HJ.out.chg.cell e4 (fun h => h)
            by_cases hz0 : z < 0
            · clear hz e4
              go_wp2
              go_ret
              exact ⟨HJ.out.chg, false, rfl, fun h => by cases h⟩
            · obtain ⟨x, rfl⟩ : ∃ x : Nat, z = (x : Int) := ⟨z.toNat, by omega⟩
              by_cases hxm : x < m
              · have hxz : ¬ ((m : Int) ≤ (x : Int)) := by omega
                have hxz' : (x : Int) < (m : Int) := by omega
                have d4 := HJ.out.blk.cell (numRow_at f hxm)
                have f4 := HJ.out.blk.free x
                by_cases hf : f x = v + 1
                · have hfz : (f x : Int) = (v : Int) + 1 := by omega
                  clear hz e4
                  go_wp2
                  go_ret
                  exact ⟨HJ.out.chg, false, rfl, fun h => by cases h⟩
                · have hfz : ¬ ((f x : Int) = (v : Int) + 1) := by omega
                  have HS : Hid (MarkAt m dss B w (wr.setCell ⟨B, x, none⟩ (.int .i64 ((v : Int) + 1))) v (j + 1) (Tj.upd f x (v + 1))) := HJ.out.step HD.out hz hxm hf hsz
                  clear hz e4
                  go_wp2
                  go_roundg (l - (j + 1))
                  case measure => go_light; omega
                  case rel => exact ⟨j + 1, _, by omega, rfl, by go_num, HS.out⟩
              · have hxz : (m : Int) ≤ (x : Int) := by omega
                clear hz e4
                go_wp2
                go_ret
                exact ⟨HJ.out.chg, false, rfl, fun h => by cases h⟩
          · have e : j = l := by omega
            subst e
            have HS : Hid (MarkAt m dss B w wr (v + 1) 0 f) := HJ.out.next HD.out HDD.out.symm
            go_wp2
            go_roundg (m - (v + 1))
            case measure => go_light; omega
            case rel => exact ⟨v + 1, _, by omega, rfl, by go_num, HS.out⟩
      · have e : v = m := by omega
        subst e
        go_wp2
        go_ret
        refine ⟨HK.out.chg, true, rfl, fun _ => ⟨by rw [HN.out, HM.out], HC.out.1, fun d hd => ?_⟩⟩
        obtain ⟨i, hi, rfl⟩ := List.getElem_of_mem hd
        rw [HM.out]
        exact HK.out.past i _ (by have := HN.out; omega) (List.getElem?_eq_getElem hi)
end Go.Proofs.Qxb6616078a
