/- sortStrings: insertion in place. -/
import Derived.Test.Qxb6616078aRead
import Derived.Test.Qxb6616078aIns
namespace Go.Proofs.Qxb6616078a
open Go.RowKit

theorem less_eq : ∀ a b : List UInt8, Op.bytesLess a b = decide (a < b)
  | [], [] => by simp [Op.bytesLess]
  | [], _ :: _ => by simp [Op.bytesLess]
  | _ :: _, [] => by simp [Op.bytesLess]
  | a :: ra, b :: rb => by
    unfold Op.bytesLess
    rw [less_eq ra rb, Bool.eq_iff_iff]
    simp [List.cons_lt_cons_iff]
theorem gt_true {x y : List UInt8} (h : x < y) : (!Op.bytesLess y x && !y == x) = true := by
  have h1 : ¬ y < x := fun h' => absurd (List.lt_trans h h') (List.lt_irrefl x)
  have h2 : ¬ y = x := fun e => by subst e; exact absurd h (List.lt_irrefl y)
  rw [less_eq]
  simp [h1, h2]
theorem gt_false {x y : List UInt8} (h : ¬ x < y) : (!Op.bytesLess y x && !y == x) = false := by
  have h1 : y ≤ x := List.not_lt.1 h
  rw [less_eq]
  by_cases h2 : y = x
  · simp [h2]
  · have h3 : y < x := by
      rcases Classical.em (y < x) with h' | h'
      · exact h'
      · exact absurd (List.le_antisymm h1 (List.not_lt.1 h')) h2
    simp [h3]

/-- A sort of the call's own row. -/
def Sorted34 (w : World) (base : Nat) (v : Value) (ss : List (List UInt8)) (e : Ending) (w' : World) : Prop := e = .returned (.tuple #[]) ∧ Chg (fun k => v.ownBlock = some k) w w' ∧ w'.ownsRow base 9 1 v ss.length ((ss.mergeSort leB).map encStr)

structure S34 (w : World) (base g cap n : Nat) (ss : List (List UInt8)) (wr : World) (L : List (List UInt8)) (i : Nat) : Prop where
  row : wr.ownsRow base 9 1 (.slice (some ⟨g, 0, none⟩) n cap) n (L.map encStr)
  perm : L.Perm ss
  sorted : (L.take i).Pairwise fun a b => a ≤ b
  chg : Chg (fun k => k = g) w wr

structure T34 (w : World) (base g cap n : Nat) (ss : List (List UInt8)) (wr : World) (L : List (List UInt8)) (i j : Nat) (x : List UInt8) : Prop where
  row : wr.ownsRow base 9 1 (.slice (some ⟨g, 0, none⟩) n cap) n ((sh L i j).map encStr)
  perm : L.Perm ss
  sorted : (L.take i).Pairwise fun a b => a ≤ b
  at_ : L[i]? = some x
  gt : ∀ y ∈ (L.drop j).take (i - j), x ≤ y
  chg : Chg (fun k => k = g) w wr

theorem Row.free {w : World} {base g n cap : Nat} {e : TypeId} {xs : List Value} (h : w.ownsRow base e 1 (.slice (some ⟨g, 0, none⟩) n cap) n xs) (i : Nat) : w.frozen? ⟨g, i, none⟩ = false := by
  rcases Row.look h with ⟨hv, _⟩ | ⟨g', cap', hv, _, _, _, _, _, hf, _⟩
  · cases hv
  · cases hv
    exact hf i

theorem T34.step {w : World} {base g cap n : Nat} {ss : List (List UInt8)} {wr : World} {L : List (List UInt8)} {i K : Nat} {x y : List UInt8} (h : T34 w base g cap n ss wr L i (K + 1) x) (hy : L[K]? = some y) (hj : K + 1 ≤ i) (hi : i < L.length) (hgt : x < y) : T34 w base g cap n ss (wr.setCell ⟨g, K + 1, none⟩ (encStr y)) L i K x where
  row := by
    have := Row.set h.row (K + 1) (encStr y)
    rw [← List.map_set, sh_step L (by omega) hj hi (by rw [Nat.add_sub_cancel]; exact hy), Nat.add_sub_cancel] at this
    exact this
  perm := h.perm
  sorted := h.sorted
  at_ := h.at_
  gt z hz := by
    rw [drop_cons L hy, show i - K = (i - (K + 1)) + 1 by omega, List.take_succ_cons] at hz
    rcases List.mem_cons.1 hz with rfl | hz
    · exact List.not_lt.1 (fun h' => absurd (List.lt_trans hgt h') (List.lt_irrefl x))
    · exact h.gt z hz
  chg := h.chg.trans (Chg.setCell wr ⟨g, K + 1, none⟩ _) (fun b hb => .inl hb)

theorem T34.fin {w : World} {base g cap n : Nat} {ss : List (List UInt8)} {wr : World} {L : List (List UInt8)} {i j : Nat} {x : List UInt8} (h : T34 w base g cap n ss wr L i j x) (hj : j ≤ i) (hle : ∀ y, 0 < j → L[j - 1]? = some y → y ≤ x) : S34 w base g cap n ss (wr.setCell ⟨g, j, none⟩ (encStr x)) ((sh L i j).set j x) (i + 1) where
  row := by
    have := Row.set h.row j (encStr x)
    rw [← List.map_set] at this
    exact this
  perm := (ins_perm L h.at_ hj).trans h.perm
  sorted := ins_sorted L id h.at_ hj h.sorted h.gt hle
  chg := h.chg.trans (Chg.setCell wr ⟨g, j, none⟩ _) (fun b hb => .inl hb)

set_option maxHeartbeats 4000000 in
set_option maxRecDepth 100000 in
theorem sort34 (w : World) (base : Nat) (v : Value) (ss : List (List UInt8)) (h : w.ownsRow base 9 1 v ss.length (ss.map encStr)) (hn : ss.length ≤ 1048576) : Calls Try.prog 34 #[v] w (Sorted34 w base v ss) := by
  rcases Row.look h with ⟨rfl, hz, _⟩ | ⟨g, cap, rfl, _⟩
  · have e : ss = [] := List.eq_nil_of_length_eq_zero hz
    subst e
    have H : Hid (w.ownsRow base 9 1 (.slice none 0 0) 0 []) := h
    clear h
    go_enter Try.func34, Try.ntmps34
    go_wp2
    go_loopg [2] 0 (fun gh s wi => gh = 0 ∧ s = .int .i64 1 ∧ Hid (wi = w))
    case atStart => exact ⟨rfl, rfl, rfl⟩
    case round =>
      obtain ⟨rfl, rfl, HW⟩ := hrel
      go_wp2
      go_end0
      exact ⟨rfl, by rw [HW.out]; exact Chg.refl _ _, by rw [HW.out]; simpa using H.out⟩
  · generalize hm : ss.length = n at *
    have HM : Hid (ss.length = n) := hm
    have H0 : Hid (S34 w base g cap n ss w ss 1) := ⟨h, List.Perm.refl _, sorted_one ss id, Chg.refl _ _⟩
    clear h hm
    go_enter Try.func34, Try.ntmps34
    go_wp2
    go_loopg [2] (n - 1) (fun gh s wi => ∃ (i : Nat) (L : List (List UInt8)), 1 ≤ i ∧ (i ≤ n ∨ i = 1) ∧ gh = n - i ∧ s = .int .i64 i ∧ Hid (S34 w base g cap n ss wi L i))
    case atStart => exact ⟨1, ss, Nat.le_refl _, .inr rfl, rfl, rfl, H0.out⟩
    case round =>
      obtain ⟨i, L, hi1, hi, rfl, rfl, HS⟩ := hrel
      clear H0
      have hLn : L.length = n := by rw [HS.out.perm.length_eq, HM.out]
      by_cases hin : i < n
      · have hiz : (i : Int) < (n : Int) := by omega
        obtain ⟨x, hx⟩ : ∃ x, L[i]? = some x := ⟨_, List.getElem?_eq_getElem (by omega)⟩
        have HL : Hid (L.length = n) := hLn
        obtain ⟨b, o, e1, d1⟩ := (Row.sl0 HS.out.row).sl.at (i := i) (x := encStr x) (by simp [hx])
        cases e1
        rw [Nat.zero_add] at d1
        have HT0 : Hid (T34 w base g cap n ss wr L i i x) := ⟨by rw [sh_start]; exact HS.out.row, HS.out.perm, HS.out.sorted, hx, by simp, HS.out.chg⟩
        clear hx HS hLn
        go_wp2
        go_loopg [4] i (fun gh s wi => ∃ (j : Nat), j ≤ i ∧ gh = j ∧ s = .int .i64 j ∧ Hid (T34 w base g cap n ss wi L i j x))
        case atStart => exact ⟨i, Nat.le_refl _, rfl, rfl, HT0.out⟩
        case round =>
          obtain ⟨j, hj, hgk, rfl, HT⟩ := hrel
          subst hgk
          clear HT0 d1
          by_cases hj0 : 0 < gk
          · have hjz : (0 : Int) < (gk : Int) := by omega
            obtain ⟨y, hy⟩ : ∃ y, L[gk - 1]? = some y := ⟨_, List.getElem?_eq_getElem (by have := HL.out; omega)⟩
            obtain ⟨b, o, e1, d2⟩ := (Row.sl0 HT.out.row).sl.at (i := gk - 1) (x := encStr y) (by rw [List.getElem?_map, sh_at L (by omega) hj (by have := HL.out; omega), hy]; rfl)
            cases e1
            rw [Nat.zero_add] at d2
            obtain ⟨K, hK⟩ : ∃ K, gk = K + 1 := ⟨gk - 1, by omega⟩
            subst hK
            rw [Nat.add_sub_cancel] at d2
            have HY : Hid (L[K]? = some y) := hy
            clear hy
            go_upto_if 26 with (fail)
            by_cases hgt : x < y
            · rw [gt_true hgt]
              obtain ⟨z, hz⟩ : ∃ z, ((sh L i (K + 1)).map encStr)[K + 1]? = some z := ⟨_, List.getElem?_eq_getElem (by rw [List.length_map, sh_len L hj (by have := HL.out; omega)]; have := HL.out; omega)⟩
              obtain ⟨b, o, e1, d3⟩ := (Row.sl0 HT.out.row).sl.at (i := K + 1) hz
              cases e1
              rw [Nat.zero_add] at d3
              have f3 := Row.free HT.out.row (K + 1)
              have HS : Hid (T34 w base g cap n ss (wr.setCell ⟨g, K + 1, none⟩ (encStr y)) L i K x) := HT.out.step HY.out hj (by have := HL.out; omega) hgt
              clear hz
              go_wp2
              go_roundg K
              case measure => go_light; omega
              case rel => exact ⟨K, by omega, rfl, by go_num, HS.out⟩
            · rw [gt_false hgt]
              obtain ⟨z, hz⟩ : ∃ z, ((sh L i (K + 1)).map encStr)[K + 1]? = some z := ⟨_, List.getElem?_eq_getElem (by rw [List.length_map, sh_len L hj (by have := HL.out; omega)]; have := HL.out; omega)⟩
              obtain ⟨b, o, e1, d3⟩ := (Row.sl0 HT.out.row).sl.at (i := K + 1) hz
              cases e1
              rw [Nat.zero_add] at d3
              have f3 := Row.free HT.out.row (K + 1)
              have HS : Hid (S34 w base g cap n ss (wr.setCell ⟨g, K + 1, none⟩ (encStr x)) ((sh L i (K + 1)).set (K + 1) x) (i + 1)) := HT.out.fin hj (fun y' _ hy' => by
                rw [Nat.add_sub_cancel, HY.out] at hy'
                cases hy'
                exact List.not_lt.1 hgt)
              clear hz
              go_wp2
              go_roundg (n - (i + 1))
              case measure => go_light; omega
              case rel => exact ⟨i + 1, _, by omega, .inl (by omega), rfl, by go_num, HS.out⟩
          · have e : gk = 0 := by omega
            subst e
            obtain ⟨z, hz⟩ : ∃ z, ((sh L i 0).map encStr)[0]? = some z := ⟨_, List.getElem?_eq_getElem (by rw [List.length_map, sh_len L (by omega) (by have := HL.out; omega)]; have := HL.out; omega)⟩
            obtain ⟨b, o, e1, d3⟩ := (Row.sl0 HT.out.row).sl.at (i := 0) hz
            cases e1
            rw [Nat.zero_add] at d3
            have f3 := Row.free HT.out.row 0
            have HS : Hid (S34 w base g cap n ss (wr.setCell ⟨g, 0, none⟩ (encStr x)) ((sh L i 0).set 0 x) (i + 1)) := HT.out.fin (Nat.zero_le _) (fun y' h0 _ => absurd h0 (by omega))
            clear hz
            go_wp2
            go_roundg (n - (i + 1))
            case measure => go_light; omega
            case rel => exact ⟨i + 1, _, by omega, .inl (by omega), rfl, by go_num, HS.out⟩
      · have HE : Hid (L = ss.mergeSort leB) := by
          have h1 := HS.out.sorted
          rw [List.take_of_length_le (by omega)] at h1
          exact sorted_eq HS.out.perm h1
        have hiz : ¬ (i : Int) < (n : Int) := by omega
        go_wp2
        go_end0
        refine ⟨rfl, HS.out.chg.mono (fun b hb => .inl (by rw [hb]; rfl)), ?_⟩
        rw [HM.out, ← HE.out]
        exact HS.out.row
end Go.Proofs.Qxb6616078a
