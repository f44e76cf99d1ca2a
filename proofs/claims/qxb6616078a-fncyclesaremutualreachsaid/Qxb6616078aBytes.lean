/- The guards on the total length. -/
import Derived.Test.Qxb6616078aRead
namespace Go.Proofs.Qxb6616078a
open Go.RowKit

def BytesRes (w : World) (e : Ending) (w' : World) : Prop := w' = w ∧ ∃ r, e = .returned (.bool r)

set_option maxHeartbeats 2000000 in
set_option maxRecDepth 100000 in
theorem bytes17 (w : World) (v1 v2 : Value) (ss : List (List UInt8)) (xss : List (List Value)) (h1 : Sl w v1 (ss.map encStr)) (h2 : Grid w v2 xss) : Calls Try.prog 17 #[v1, v2] w (BytesRes w) := by
  obtain ⟨a1, c1, rfl⟩ := h1.shape
  obtain ⟨a2, c2, rfl, q2⟩ := h2.shape
  clear h2
  rw [List.length_map] at h1 ⊢
  have HA : Hid (∀ i s, ss[i]? = some s → ∃ b o, a1 = some ⟨b, o, none⟩ ∧ w.cell? ⟨b, o + i, none⟩ = some (encStr s)) := fun i s hs => h1.at (by simp [hs])
  have HB : Hid (∀ i xs, xss[i]? = some xs → ∃ b o a' c', a2 = some ⟨b, o, none⟩ ∧ w.cell? ⟨b, o + i, none⟩ = some (.slice a' xs.length c')) := fun i xs hx => by
    obtain ⟨b, o, a', c', e1, e2, _⟩ := q2 i xs hx
    exact ⟨b, o, a', c', e1, e2⟩
  generalize hm : ss.length = m at *
  generalize hn : xss.length = n at *
  have HM : Hid (ss.length = m) := hm
  have HN : Hid (xss.length = n) := hn
  clear h1 q2 hm hn
  by_cases hm1 : 1048576 < m
  · have z1 : (1048576 : Int) < (m : Int) := by omega
    go_enter Try.func17, Try.ntmps17
    go_wp2
    go_ret
    exact ⟨rfl, false, rfl⟩
  · have z1 : ¬ (1048576 : Int) < (m : Int) := by omega
    go_enter Try.func17, Try.ntmps17
    go_upto_block 0 with (fail)
    go_cut [5] (fun s wc => ∃ z : Nat, z ≤ 1048576 ∧ s = .int .i64 z ∧ Hid (wc = w))
    case first =>
      go_wp2
      go_loopg [5, 6] m (fun gh t s wi => ∃ (k z : Nat), k ≤ m ∧ z ≤ 1048576 ∧ gh = m - k ∧ s = .int .i64 k ∧ t = .int .i64 z ∧ Hid (wi = w))
      case atStart => exact ⟨0, m, Nat.zero_le _, by omega, rfl, rfl, by go_num, rfl⟩
      case round =>
        obtain ⟨k, z, hk, hz, rfl, rfl, rfl, HW⟩ := hrel
        by_cases hkm : k < m
        · have hkz : (k : Int) < (m : Int) := by omega
          obtain ⟨s, hs⟩ : ∃ s, ss[k]? = some s := ⟨_, List.getElem?_eq_getElem (by have := HM.out; omega)⟩
          obtain ⟨b1, o1, rfl, e1⟩ := HA.out k s hs
          have d1 : wr.cell? ⟨b1, o1 + k, none⟩ = some (encStr s) := by rw [HW.out]; exact e1
          clear hs e1
          by_cases hl : 1048576 < s.length
          · have zl : (1048576 : Int) < (s.length : Int) := by omega
            go_wp2
            go_ret
            exact ⟨HW.out, false, rfl⟩
          · have zl : ¬ (1048576 : Int) < (s.length : Int) := by omega
            by_cases ht : 1048576 < z + s.length
            · have zt : (1048576 : Int) < (z : Int) + (s.length : Int) := by omega
              go_wp2
              go_ret
              exact ⟨HW.out, false, rfl⟩
            · have zt : ¬ (1048576 : Int) < (z : Int) + (s.length : Int) := by omega
              go_wp2
              go_roundg (m - (k + 1))
              case measure => go_light; omega
              case rel => exact ⟨k + 1, z + s.length, by omega, by omega, rfl, by go_num, by go_num, HW.out⟩
        · have e : k = m := by omega
          subst e
          go_wp2
          go_meet
          case rel => exact ⟨z, hz, rfl, HW.out⟩
    case rest =>
      obtain ⟨z0, hz0, rfl, HW0⟩ := hcut
      by_cases hn1 : 1048576 < n
      · have z2 : (1048576 : Int) < (n : Int) := by omega
        go_wp2
        go_ret
        exact ⟨HW0.out, false, rfl⟩
      · have z2 : ¬ (1048576 : Int) < (n : Int) := by omega
        by_cases ht0 : 1048576 < z0 + n
        · have z3 : (1048576 : Int) < (z0 : Int) + (n : Int) := by omega
          go_wp2
          go_ret
          exact ⟨HW0.out, false, rfl⟩
        · have z3 : ¬ (1048576 : Int) < (z0 : Int) + (n : Int) := by omega
          go_wp2
          go_loopg [5, 7] n (fun gh t s wi => ∃ (k z : Nat), k ≤ n ∧ z ≤ 1048576 ∧ gh = n - k ∧ s = .int .i64 k ∧ t = .int .i64 z ∧ Hid (wi = w))
          case atStart => exact ⟨0, z0 + n, Nat.zero_le _, by omega, rfl, rfl, by go_num, HW0.out⟩
          case round =>
            obtain ⟨k, z, hk, hz, rfl, rfl, rfl, HW⟩ := hrel
            by_cases hkm : k < n
            · have hkz : (k : Int) < (n : Int) := by omega
              obtain ⟨xs, hs⟩ : ∃ xs, xss[k]? = some xs := ⟨_, List.getElem?_eq_getElem (by have := HN.out; omega)⟩
              obtain ⟨b1, o1, a', c', rfl, e1⟩ := HB.out k xs hs
              have d1 : wr.cell? ⟨b1, o1 + k, none⟩ = some (.slice a' xs.length c') := by rw [HW.out]; exact e1
              clear hs e1
              generalize xs.length = l at *
              by_cases hl : 1048576 < l
              · have zl : (1048576 : Int) < (l : Int) := by omega
                go_wp2
                go_ret
                exact ⟨HW.out, false, rfl⟩
              · have zl : ¬ (1048576 : Int) < (l : Int) := by omega
                by_cases ht : 1048576 < z + l
                · have zt : (1048576 : Int) < (z : Int) + (l : Int) := by omega
                  go_wp2
                  go_ret
                  exact ⟨HW.out, false, rfl⟩
                · have zt : ¬ (1048576 : Int) < (z : Int) + (l : Int) := by omega
                  go_wp2
                  go_roundg (n - (k + 1))
                  case measure => go_light; omega
                  case rel => exact ⟨k + 1, z + l, by omega, by omega, rfl, by go_num, by go_num, HW.out⟩
            · have e : k = n := by omega
              subst e
              go_wp2
              go_ret
              exact ⟨HW.out, true, rfl⟩

set_option maxHeartbeats 2000000 in
set_option maxRecDepth 100000 in
theorem bytes7 (w : World) (v1 v2 : Value) (ss : List (List UInt8)) (xss : List (List Value)) (h1 : Sl w v1 (ss.map encStr)) (h2 : Grid w v2 xss) : Calls Try.prog 7 #[v1, v2] w (BytesRes w) := by
  obtain ⟨a1, c1, rfl⟩ := h1.shape
  obtain ⟨a2, c2, rfl, q2⟩ := h2.shape
  clear h2
  rw [List.length_map] at h1 ⊢
  have HA : Hid (∀ i s, ss[i]? = some s → ∃ b o, a1 = some ⟨b, o, none⟩ ∧ w.cell? ⟨b, o + i, none⟩ = some (encStr s)) := fun i s hs => h1.at (by simp [hs])
  have HB : Hid (∀ i xs, xss[i]? = some xs → ∃ b o a' c', a2 = some ⟨b, o, none⟩ ∧ w.cell? ⟨b, o + i, none⟩ = some (.slice a' xs.length c')) := fun i xs hx => by
    obtain ⟨b, o, a', c', e1, e2, _⟩ := q2 i xs hx
    exact ⟨b, o, a', c', e1, e2⟩
  generalize hm : ss.length = m at *
  generalize hn : xss.length = n at *
  have HM : Hid (ss.length = m) := hm
  have HN : Hid (xss.length = n) := hn
  clear h1 q2 hm hn
  by_cases hm1 : 1048576 < m
  · have z1 : (1048576 : Int) < (m : Int) := by omega
    go_enter Try.func7, Try.ntmps7
    go_wp2
    go_ret
    exact ⟨rfl, false, rfl⟩
  · have z1 : ¬ (1048576 : Int) < (m : Int) := by omega
    go_enter Try.func7, Try.ntmps7
    go_upto_block 0 with (fail)
    go_cut [5] (fun s wc => ∃ z : Nat, z ≤ 1048576 ∧ s = .int .i64 z ∧ Hid (wc = w))
    case first =>
      go_wp2
      go_loopg [5, 6] m (fun gh t s wi => ∃ (k z : Nat), k ≤ m ∧ z ≤ 1048576 ∧ gh = m - k ∧ s = .int .i64 k ∧ t = .int .i64 z ∧ Hid (wi = w))
      case atStart => exact ⟨0, m, Nat.zero_le _, by omega, rfl, rfl, by go_num, rfl⟩
      case round =>
        obtain ⟨k, z, hk, hz, rfl, rfl, rfl, HW⟩ := hrel
        by_cases hkm : k < m
        · have hkz : (k : Int) < (m : Int) := by omega
          obtain ⟨s, hs⟩ : ∃ s, ss[k]? = some s := ⟨_, List.getElem?_eq_getElem (by have := HM.out; omega)⟩
          obtain ⟨b1, o1, rfl, e1⟩ := HA.out k s hs
          have d1 : wr.cell? ⟨b1, o1 + k, none⟩ = some (encStr s) := by rw [HW.out]; exact e1
          clear hs e1
          by_cases hl : 1048576 < s.length
          · have zl : (1048576 : Int) < (s.length : Int) := by omega
            go_wp2
            go_ret
            exact ⟨HW.out, false, rfl⟩
          · have zl : ¬ (1048576 : Int) < (s.length : Int) := by omega
            by_cases ht : 1048576 < z + s.length
            · have zt : (1048576 : Int) < (z : Int) + (s.length : Int) := by omega
              go_wp2
              go_ret
              exact ⟨HW.out, false, rfl⟩
            · have zt : ¬ (1048576 : Int) < (z : Int) + (s.length : Int) := by omega
              go_wp2
              go_roundg (m - (k + 1))
              case measure => go_light; omega
              case rel => exact ⟨k + 1, z + s.length, by omega, by omega, rfl, by go_num, by go_num, HW.out⟩
        · have e : k = m := by omega
          subst e
          go_wp2
          go_meet
          case rel => exact ⟨z, hz, rfl, HW.out⟩
    case rest =>
      obtain ⟨z0, hz0, rfl, HW0⟩ := hcut
      by_cases hn1 : 1048576 < n
      · have z2 : (1048576 : Int) < (n : Int) := by omega
        go_wp2
        go_ret
        exact ⟨HW0.out, false, rfl⟩
      · have z2 : ¬ (1048576 : Int) < (n : Int) := by omega
        by_cases ht0 : 1048576 < z0 + n
        · have z3 : (1048576 : Int) < (z0 : Int) + (n : Int) := by omega
          go_wp2
          go_ret
          exact ⟨HW0.out, false, rfl⟩
        · have z3 : ¬ (1048576 : Int) < (z0 : Int) + (n : Int) := by omega
          go_wp2
          go_loopg [5, 7] n (fun gh t s wi => ∃ (k z : Nat), k ≤ n ∧ z ≤ 1048576 ∧ gh = n - k ∧ s = .int .i64 k ∧ t = .int .i64 z ∧ Hid (wi = w))
          case atStart => exact ⟨0, z0 + n, Nat.zero_le _, by omega, rfl, rfl, by go_num, HW0.out⟩
          case round =>
            obtain ⟨k, z, hk, hz, rfl, rfl, rfl, HW⟩ := hrel
            by_cases hkm : k < n
            · have hkz : (k : Int) < (n : Int) := by omega
              obtain ⟨xs, hs⟩ : ∃ xs, xss[k]? = some xs := ⟨_, List.getElem?_eq_getElem (by have := HN.out; omega)⟩
              obtain ⟨b1, o1, a', c', rfl, e1⟩ := HB.out k xs hs
              have d1 : wr.cell? ⟨b1, o1 + k, none⟩ = some (.slice a' xs.length c') := by rw [HW.out]; exact e1
              clear hs e1
              generalize xs.length = l at *
              by_cases hl : 1048576 < l
              · have zl : (1048576 : Int) < (l : Int) := by omega
                go_wp2
                go_ret
                exact ⟨HW.out, false, rfl⟩
              · have zl : ¬ (1048576 : Int) < (l : Int) := by omega
                by_cases ht : 1048576 < z + l
                · have zt : (1048576 : Int) < (z : Int) + (l : Int) := by omega
                  go_wp2
                  go_ret
                  exact ⟨HW.out, false, rfl⟩
                · have zt : ¬ (1048576 : Int) < (z : Int) + (l : Int) := by omega
                  go_wp2
                  go_roundg (n - (k + 1))
                  case measure => go_light; omega
                  case rel => exact ⟨k + 1, z + l, by omega, by omega, rfl, by go_num, by go_num, HW.out⟩
            · have e : k = n := by omega
              subst e
              go_wp2
              go_ret
              exact ⟨HW.out, true, rfl⟩
end Go.Proofs.Qxb6616078a
