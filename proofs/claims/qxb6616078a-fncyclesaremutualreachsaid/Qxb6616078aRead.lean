/- Functions of the laws that only read. -/
import Derived.Test.Qxb6616078aSl
import Derived.Deep.LoopGhost
import Derived.Deep.CutBlock
import Derived.Deep.DeepCutAuto
import Derived.Deep.Light
import Derived.Deep.QuietTactic
import Derived.BigQuiet
import Derived.Sort.KeysCollected
namespace Go.Proofs.Qxb6616078a
open Go.RowKit

theorem Sl.at {w : World} {a : Option Addr} {n c : Nat} {vs : List Value} (h : Sl w (.slice a n c) vs) {i : Nat} {x : Value} (hx : vs[i]? = some x) : ∃ b o, a = some ⟨b, o, none⟩ ∧ w.cell? ⟨b, o + i, none⟩ = some x := by
  obtain ⟨a', c', hv, h⟩ := h
  cases hv
  rcases h with h | ⟨b, o, ha, h⟩
  · rw [h] at hx; simp at hx
  · exact ⟨b, o, ha, h i x hx⟩
theorem Sl.shape {w : World} {v : Value} {vs : List Value} (h : Sl w v vs) : ∃ a c, v = .slice a vs.length c := by
  obtain ⟨a, c, hv, _⟩ := h
  exact ⟨a, c, hv⟩

set_option maxHeartbeats 1000000 in
set_option maxRecDepth 100000 in
/-- sameStrings of two slices that read alike. -/
theorem same16 (w : World) (v1 v2 : Value) (ss : List (List UInt8)) (h1 : Sl w v1 (ss.map encStr)) (h2 : Sl w v2 (ss.map encStr)) (hn : ss.length ≤ 1048577) : Calls Try.prog 16 #[v1, v2] w fun e w' => e = .returned (.bool true) ∧ ∃ q, w' = w.drewN q := by
  obtain ⟨a1, c1, rfl⟩ := h1.shape
  obtain ⟨a2, c2, rfl⟩ := h2.shape
  rw [List.length_map] at h1 h2 ⊢
  generalize hm : ss.length = m at *
  have HA : Hid (∀ i s, ss[i]? = some s → ∃ b o, a1 = some ⟨b, o, none⟩ ∧ w.cell? ⟨b, o + i, none⟩ = some (encStr s)) := fun i s hs => h1.at (by simp [hs])
  have HB : Hid (∀ i s, ss[i]? = some s → ∃ b o, a2 = some ⟨b, o, none⟩ ∧ w.cell? ⟨b, o + i, none⟩ = some (encStr s)) := fun i s hs => h2.at (by simp [hs])
  have HM : Hid (ss.length = m) := hm
  clear h1 h2 hm
  go_enter Try.func16, Try.ntmps16
  go_wp2
  go_loopg [5] m (fun gh s wi => ∃ (k q : Nat), k ≤ m ∧ gh = m - k ∧ s = .int .i64 k ∧ Hid (wi = w.drewN q))
  case atStart => exact ⟨0, 0, Nat.zero_le _, rfl, rfl, rfl⟩
  case round =>
    obtain ⟨k, q, hk, rfl, rfl, HW⟩ := hrel
    by_cases hkm : k < m
    · have hkz : (k : Int) < (m : Int) := by omega
      obtain ⟨s, hs⟩ : ∃ s, ss[k]? = some s := ⟨_, List.getElem?_eq_getElem (by have := HM.out; omega)⟩
      obtain ⟨b1, o1, rfl, e1⟩ := HA.out k s hs
      obtain ⟨b2, o2, rfl, e2⟩ := HB.out k s hs
      have d1 : wr.cell? ⟨b1, o1 + k, none⟩ = some (encStr s) := by rw [HW.out]; exact e1
      have d2 : wr.cell? ⟨b2, o2 + k, none⟩ = some (encStr s) := by rw [HW.out]; exact e2
      clear hs e1 e2
      go_upto_region 6 with (fail)
      go_quiet (fail)
      go_wp2
      go_roundg (m - (k + 1))
      case measure => go_light; omega
      case rel => exact ⟨k + 1, q + nq, by omega, rfl, by go_num, (by rw [HW.out]; simp : wr.drewN nq = w.drewN (q + nq))⟩
    · have e : k = m := by omega
      subst e
      go_wp2
      go_ret
      exact ⟨rfl, q, HW.out⟩
/-- A slice of slices, row by row. -/
theorem Grid.shape {w : World} {v : Value} {xss : List (List Value)} (h : Grid w v xss) : ∃ a c, v = .slice a xss.length c ∧ ∀ i xs, xss[i]? = some xs → ∃ b o a' c', a = some ⟨b, o, none⟩ ∧ w.cell? ⟨b, o + i, none⟩ = some (.slice a' xs.length c') ∧ Sl w (.slice a' xs.length c') xs := by
  obtain ⟨hs, h1, h2, h3⟩ := h
  obtain ⟨a, c, rfl⟩ := h1.shape
  refine ⟨a, c, by rw [h2], fun i xs hxs => ?_⟩
  have hi : i < hs.length := by
    have := (List.getElem?_eq_some_iff.1 hxs).1
    omega
  obtain ⟨b, o, ha, hc⟩ := h1.at (List.getElem?_eq_getElem hi)
  have hr := h3 i _ xs (List.getElem?_eq_getElem hi) hxs
  obtain ⟨a', c', hv⟩ := hr.shape
  rw [hv] at hc hr
  exact ⟨b, o, a', c', ha, hc, hr⟩

set_option maxHeartbeats 1000000 in
set_option maxRecDepth 100000 in
/-- sameGroups of two that read alike. -/
theorem same15 (w : World) (v1 v2 : Value) (gs : List (List (List UInt8))) (h1 : Grid w v1 (gs.map fun g => g.map encStr)) (h2 : Grid w v2 (gs.map fun g => g.map encStr)) (hn : gs.length ≤ 1048577) (hg : ∀ g ∈ gs, g.length ≤ 1048577) : Calls Try.prog 15 #[v1, v2] w fun e w' => e = .returned (.bool true) ∧ ∃ q, w' = w.drewN q := by
  obtain ⟨a1, c1, rfl, q1⟩ := h1.shape
  obtain ⟨a2, c2, rfl, q2⟩ := h2.shape
  clear h1 h2
  rw [List.length_map]
  generalize hm : gs.length = m at *
  have HA : Hid (∀ (i : Nat) (g : List (List UInt8)), gs[i]? = some g → ∃ b o a' c', a1 = some ⟨b, o, none⟩ ∧ w.cell? ⟨b, o + i, none⟩ = some (.slice a' g.length c') ∧ Sl w (.slice a' g.length c') (g.map encStr)) := fun i g hg => by simpa using q1 i (g.map encStr) (by simp [hg])
  have HB : Hid (∀ (i : Nat) (g : List (List UInt8)), gs[i]? = some g → ∃ b o a' c', a2 = some ⟨b, o, none⟩ ∧ w.cell? ⟨b, o + i, none⟩ = some (.slice a' g.length c') ∧ Sl w (.slice a' g.length c') (g.map encStr)) := fun i g hg => by simpa using q2 i (g.map encStr) (by simp [hg])
  have HM : Hid (gs.length = m) := hm
  have HG : Hid (∀ g ∈ gs, g.length ≤ 1048577) := hg
  clear q1 q2 hm hg
  go_enter Try.func15, Try.ntmps15
  go_wp2
  go_loopg [5] m (fun gh s wi => ∃ (k q : Nat), k ≤ m ∧ gh = m - k ∧ s = .int .i64 k ∧ Hid (wi = w.drewN q))
  case atStart => exact ⟨0, 0, Nat.zero_le _, rfl, rfl, rfl⟩
  case round =>
    obtain ⟨k, q, hk, rfl, rfl, HW⟩ := hrel
    by_cases hkm : k < m
    · have hkz : (k : Int) < (m : Int) := by omega
      obtain ⟨g, hg⟩ : ∃ g, gs[k]? = some g := ⟨_, List.getElem?_eq_getElem (by have := HM.out; omega)⟩
      obtain ⟨b1, o1, a3, c3, rfl, e1, s1⟩ := HA.out k g hg
      obtain ⟨b2, o2, a4, c4, rfl, e2, s2⟩ := HB.out k g hg
      have d1 : wr.cell? ⟨b1, o1 + k, none⟩ = some (.slice a3 g.length c3) := by rw [HW.out]; exact e1
      have d2 : wr.cell? ⟨b2, o2 + k, none⟩ = some (.slice a4 g.length c4) := by rw [HW.out]; exact e2
      have HS : Hid (∀ j, Calls Try.prog 16 #[.slice a3 g.length c3, .slice a4 g.length c4] (wr.drewN j) fun e w' => e = .returned (.bool true) ∧ ∃ q, w' = (wr.drewN j).drewN q) := fun j => by
        have hc : Chg (fun _ => False) w (wr.drewN j) := by rw [HW.out]; exact ⟨rfl, rfl, rfl, Nat.le_refl _, fun _ _ _ => rfl⟩
        exact same16 (wr.drewN j) _ _ g (s1.chg hc) (s2.chg hc) (HG.out g (List.mem_of_getElem? hg))
      clear hg e1 e2 s1 s2
      go_upto_region 6 with (fail)
      go_quiet (first | (go_at_call 16; refine Calls.quiet_of (HS.out _)))
      go_wp2
      go_roundg (m - (k + 1))
      case measure => go_light; omega
      case rel => exact ⟨k + 1, q + nq, by omega, rfl, by go_num, (by rw [HW.out]; simp : wr.drewN nq = w.drewN (q + nq))⟩
    · have e : k = m := by omega
      subst e
      go_wp2
      go_ret
      exact ⟨rfl, q, HW.out⟩

def FitRes (m n : Nat) (ss : List (List UInt8)) (xss : List (List Value)) (w : World) (e : Ending) (w' : World) : Prop := w' = w ∧ ∃ r, e = .returned (.bool r) ∧ (r = true → m ≤ 4096 ∧ n ≤ 4096 ∧ (∀ s ∈ ss, s.length ≤ 1048576) ∧ (xss.map List.length).sum ≤ 131072)

set_option maxHeartbeats 2000000 in
set_option maxRecDepth 100000 in
/-- graphFits. -/
theorem fits8 (w : World) (v1 v2 : Value) (ss : List (List UInt8)) (xss : List (List Value)) (h1 : Sl w v1 (ss.map encStr)) (h2 : Grid w v2 xss) : Calls Try.prog 8 #[v1, v2, .int .i64 0] w (FitRes ss.length xss.length ss xss w) := by
  obtain ⟨a1, c1, rfl⟩ := h1.shape
  obtain ⟨a2, c2, rfl, q2⟩ := h2.shape
  clear h2
  rw [List.length_map] at h1 ⊢
  have HA : Hid (∀ i s, ss[i]? = some s → ∃ b o, a1 = some ⟨b, o, none⟩ ∧ w.cell? ⟨b, o + i, none⟩ = some (encStr s)) := fun i s hs => h1.at (by simp [hs])
  have HB : Hid (∀ i xs, xss[i]? = some xs → ∃ b o a' c', a2 = some ⟨b, o, none⟩ ∧ w.cell? ⟨b, o + i, none⟩ = some (.slice a' xs.length c')) := fun i xs hx => by
    obtain ⟨b, o, a', c', e1, e2, _⟩ := q2 i xs hx
    exact ⟨b, o, a', c', e1, e2⟩
  generalize hm : ss.length = m at *
  generalize hn : xss.length = n at *
  have HM : Hid (ss.length = m) := hm
  have HN : Hid (xss.length = n) := hn
  clear h1 q2 hm hn
  by_cases hm1 : 4096 < m
  · have z1 : (4096 : Int) < (m : Int) := by omega
    go_enter Try.func8, Try.ntmps8
    go_wp2
    go_ret
    exact ⟨rfl, false, rfl, fun h => by cases h⟩
  · have z1 : ¬ (4096 : Int) < (m : Int) := by omega
    by_cases hn1 : 4096 < n
    · have z2 : (4096 : Int) < (n : Int) := by omega
      go_enter Try.func8, Try.ntmps8
      go_wp2
      go_ret
      exact ⟨rfl, false, rfl, fun h => by cases h⟩
    · have z2 : ¬ (4096 : Int) < (n : Int) := by omega
      go_enter Try.func8, Try.ntmps8
      go_upto_block 0 with (fail)
      go_cut [7] (fun s wc => ∃ z : Nat, z ≤ 1048576 ∧ s = .int .i64 z ∧ Hid (wc = w ∧ ∀ s ∈ ss, s.length ≤ 1048576))
      case first =>
        go_wp2
        go_loopg [7, 8] m (fun gh t s wi => ∃ (k z : Nat), k ≤ m ∧ z ≤ 1048576 ∧ gh = m - k ∧ s = .int .i64 k ∧ t = .int .i64 z ∧ Hid (wi = w ∧ ∀ s ∈ ss.take k, s.length ≤ 1048576))
        case atStart => exact ⟨0, 0, Nat.zero_le _, Nat.zero_le _, rfl, rfl, rfl, rfl, by simp⟩
        case round =>
          obtain ⟨k, z, hk, hz, rfl, rfl, rfl, HW⟩ := hrel
          by_cases hkm : k < m
          · have hkz : (k : Int) < (m : Int) := by omega
            obtain ⟨s, hs⟩ : ∃ s, ss[k]? = some s := ⟨_, List.getElem?_eq_getElem (by have := HM.out; omega)⟩
            obtain ⟨b1, o1, rfl, e1⟩ := HA.out k s hs
            have d1 : wr.cell? ⟨b1, o1 + k, none⟩ = some (encStr s) := by rw [HW.out.1]; exact e1
            have HT : Hid (s.length ≤ 1048576 → ∀ s ∈ ss.take (k + 1), s.length ≤ 1048576) := fun hl x hx => by
              rw [List.take_add_one, hs] at hx
              rcases List.mem_append.1 hx with hx | hx
              · exact HW.out.2 x hx
              · simp at hx; exact hx ▸ hl
            clear hs e1
            by_cases hl : 1048576 < s.length
            · have zl : (1048576 : Int) < (s.length : Int) := by omega
              go_wp2
              go_ret
              exact ⟨HW.out.1, false, rfl, fun h => by cases h⟩
            · have zl : ¬ (1048576 : Int) < (s.length : Int) := by omega
              by_cases ht : 1048576 < z + s.length
              · have zt : (1048576 : Int) < (z : Int) + (s.length : Int) := by omega
                go_wp2
                go_ret
                exact ⟨HW.out.1, false, rfl, fun h => by cases h⟩
              · have zt : ¬ (1048576 : Int) < (z : Int) + (s.length : Int) := by omega
                go_wp2
                go_roundg (m - (k + 1))
                case measure => go_light; omega
                case rel => exact ⟨k + 1, z + s.length, by omega, by omega, rfl, by go_num, by go_num, HW.out.1, HT.out (by omega)⟩
          · have e : k = m := by omega
            subst e
            go_wp2
            go_meet
            case rel => exact ⟨z, hz, rfl, HW.out.1, by have h := HW.out.2; rw [List.take_of_length_le (by have := HM.out; omega)] at h; exact h⟩
      case rest =>
        obtain ⟨z0, hz0, rfl, HW0⟩ := hcut
        go_wp2
        go_loopg [7, 9] n (fun gh t s wi => ∃ (k z : Nat), k ≤ n ∧ z ≤ 1048576 ∧ gh = n - k ∧ s = .int .i64 k ∧ t = .int .i64 z ∧ Hid (wi = w ∧ 8 * ((xss.take k).map List.length).sum ≤ z))
        case atStart => exact ⟨0, z0, Nat.zero_le _, hz0, rfl, rfl, rfl, HW0.out.1, by simp⟩
        case round =>
          obtain ⟨k, z, hk, hz, rfl, rfl, rfl, HW⟩ := hrel
          by_cases hkm : k < n
          · have hkz : (k : Int) < (n : Int) := by omega
            obtain ⟨xs, hs⟩ : ∃ xs, xss[k]? = some xs := ⟨_, List.getElem?_eq_getElem (by have := HN.out; omega)⟩
            obtain ⟨b1, o1, a', c', rfl, e1⟩ := HB.out k xs hs
            have d1 : wr.cell? ⟨b1, o1 + k, none⟩ = some (.slice a' xs.length c') := by rw [HW.out.1]; exact e1
            have HT : Hid (((xss.take (k + 1)).map List.length).sum = ((xss.take k).map List.length).sum + xs.length) := by
              show _ = _
              rw [List.take_add_one, hs]
              simp
            clear hs e1
            generalize xs.length = l at *
            by_cases hl : 131072 < l
            · have zl : (131072 : Int) < (l : Int) := by omega
              go_wp2
              go_ret
              exact ⟨HW.out.1, false, rfl, fun h => by cases h⟩
            · have zl : ¬ (131072 : Int) < (l : Int) := by omega
              by_cases ht : 1048576 < z + 8 * l
              · have zt : (1048576 : Int) < (z : Int) + 8 * (l : Int) := by omega
                go_wp2
                go_ret
                exact ⟨HW.out.1, false, rfl, fun h => by cases h⟩
              · have zt : ¬ (1048576 : Int) < (z : Int) + 8 * (l : Int) := by omega
                go_wp2
                go_roundg (n - (k + 1))
                case measure => go_light; omega
                case rel => exact ⟨k + 1, z + 8 * l, by omega, by omega, rfl, by go_num, by go_num, HW.out.1, by have := HW.out.2; rw [HT.out]; omega⟩
          · have e : k = n := by omega
            subst e
            go_wp2
            go_ret
            refine ⟨HW.out.1, true, rfl, fun _ => ⟨by omega, by omega, HW0.out.2, ?_⟩⟩
            have := HW.out.2
            rw [List.take_of_length_le (by have := HN.out; omega)] at this
            omega
end Go.Proofs.Qxb6616078a
