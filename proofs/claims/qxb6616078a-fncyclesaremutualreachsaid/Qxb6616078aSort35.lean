/- sortGroups: insertion in place, by the groups' first names. -/
import Derived.Test.Qxb6616078aSortG
import Derived.Test.Qxb6616078aSort34
namespace Go.Proofs.Qxb6616078a
open Go.RowKit

abbrev Item := Value × List (List UInt8)
def key35 (p : Item) : List UInt8 := p.2.headD []

structure S35 (w : World) (base g cap n : Nat) (L0 : List Item) (wr : World) (L : List Item) (i : Nat) : Prop where
  row : wr.ownsRow base 22 1 (.slice (some ⟨g, 0, none⟩) n cap) n (L.map Prod.fst)
  perm : L.Perm L0
  sorted : (L.take i).Pairwise fun a b => key35 a ≤ key35 b
  chg : Chg (fun k => k = g) w wr

structure T35 (w : World) (base g cap n : Nat) (L0 : List Item) (wr : World) (L : List Item) (i j : Nat) (x : Item) : Prop where
  row : wr.ownsRow base 22 1 (.slice (some ⟨g, 0, none⟩) n cap) n ((sh L i j).map Prod.fst)
  perm : L.Perm L0
  sorted : (L.take i).Pairwise fun a b => key35 a ≤ key35 b
  at_ : L[i]? = some x
  gt : ∀ y ∈ (L.drop j).take (i - j), key35 x ≤ key35 y
  chg : Chg (fun k => k = g) w wr

theorem T35.drewN {w : World} {base g cap n : Nat} {L0 : List Item} {wr : World} {L : List Item} {i j : Nat} {x : Item} (h : T35 w base g cap n L0 wr L i j x) (q : Nat) : T35 w base g cap n L0 (wr.drewN q) L i j x :=
  ⟨Row.chg h.row (F := fun _ => False) ⟨rfl, rfl, rfl, Nat.le_refl _, fun _ _ _ => rfl⟩ (fun _ _ h => h), h.perm, h.sorted, h.at_, h.gt, h.chg.trans (G := fun _ => False) ⟨rfl, rfl, rfl, Nat.le_refl _, fun _ _ _ => rfl⟩ (fun _ h => h.elim)⟩

theorem T35.step {w : World} {base g cap n : Nat} {L0 : List Item} {wr : World} {L : List Item} {i K : Nat} {x y : Item} (h : T35 w base g cap n L0 wr L i (K + 1) x) (hy : L[K]? = some y) (hj : K + 1 ≤ i) (hi : i < L.length) (hgt : key35 x < key35 y) : T35 w base g cap n L0 (wr.setCell ⟨g, K + 1, none⟩ y.1) L i K x where
  row := by
    have := Row.set h.row (K + 1) y.1
    rw [← List.map_set, sh_step L (by omega) hj hi (by rw [Nat.add_sub_cancel]; exact hy), Nat.add_sub_cancel] at this
    exact this
  perm := h.perm
  sorted := h.sorted
  at_ := h.at_
  gt z hz := by
    rw [drop_cons L hy, show i - K = (i - (K + 1)) + 1 by omega, List.take_succ_cons] at hz
    rcases List.mem_cons.1 hz with rfl | hz
    · exact List.not_lt.1 (fun h' => absurd (List.lt_trans hgt h') (List.lt_irrefl _))
    · exact h.gt z hz
  chg := h.chg.trans (Chg.setCell wr ⟨g, K + 1, none⟩ _) (fun b hb => .inl hb)

theorem T35.fin {w : World} {base g cap n : Nat} {L0 : List Item} {wr : World} {L : List Item} {i j : Nat} {x : Item} (h : T35 w base g cap n L0 wr L i j x) (hj : j ≤ i) (hle : ∀ y, 0 < j → L[j - 1]? = some y → key35 y ≤ key35 x) : S35 w base g cap n L0 (wr.setCell ⟨g, j, none⟩ x.1) ((sh L i j).set j x) (i + 1) where
  row := by
    have := Row.set h.row j x.1
    rw [← List.map_set] at this
    exact this
  perm := (ins_perm L h.at_ hj).trans h.perm
  sorted := ins_sorted L key35 h.at_ hj h.sorted h.gt hle
  chg := h.chg.trans (Chg.setCell wr ⟨g, j, none⟩ _) (fun b hb => .inl hb)

theorem zip_fst {hs : List Value} {gs : List (List (List UInt8))} (h : hs.length = gs.length) : (hs.zip gs).map Prod.fst = hs := by
  rw [List.map_fst_zip]; omega
theorem zip_snd {hs : List Value} {gs : List (List (List UInt8))} (h : hs.length = gs.length) : (hs.zip gs).map Prod.snd = gs := by
  rw [List.map_snd_zip]; omega

/-- Behind the last round. -/
theorem S35.res {w : World} {base g cap n : Nat} {hdrs : List Value} {grps : List (List (List UInt8))} (h0 : GR w base (.slice (some ⟨g, 0, none⟩) n cap) hdrs grps) (hn : hdrs.length = n) {wr : World} {L : List Item} (h : S35 w base g cap n (hdrs.zip grps) wr L n) :
    SortRes w base (.slice (some ⟨g, 0, none⟩) n cap) hdrs grps (.returned (.tuple #[])) wr := by
  have hlen := h0.len
  have hLn : L.length = n := by rw [h.perm.length_eq]; simp; omega
  refine ⟨rfl, h.chg.mono (fun b hb => .inl (by rw [hb]; rfl)), L.map Prod.fst, L.map Prod.snd, ⟨by simpa [hLn] using h.row, by simp, fun i hd gr h1 h2 => ?_⟩, by simp [hLn, hn], fun x hx => ?_, ?_, ?_⟩
  · rw [List.getElem?_map] at h1 h2
    cases hi : L[i]? with
    | none => rw [hi] at h1; simp at h1
    | some p =>
      rw [hi] at h1 h2
      simp at h1 h2
      subst h1
      subst h2
      have hm : p ∈ hdrs.zip grps := h.perm.mem_iff.1 (List.mem_of_getElem? hi)
      obtain ⟨k, hk, e⟩ := List.getElem_of_mem hm
      have hk1 : k < hdrs.length := by simp at hk; omega
      have hk2 : k < grps.length := by omega
      rw [List.getElem_zip] at e
      subst e
      obtain ⟨b, cap', e1, e2, e3⟩ := h0.rows k _ _ (List.getElem?_eq_getElem hk1) (List.getElem?_eq_getElem hk2)
      refine ⟨b, cap', e1, e2, Row.chg e3 h.chg (fun q hq hf => ?_)⟩
      rw [e1] at hq
      have : b = q := by simpa [Value.ownBlock] using hq
      exact e2 (by rw [this, hf]; rfl)
  · obtain ⟨p, hp, rfl⟩ := List.mem_map.1 hx
    exact (List.of_mem_zip (h.perm.mem_iff.1 hp)).1
  · have := h.perm.map Prod.snd
    rw [zip_snd hlen] at this
    exact this
  · have hs := h.sorted
    rw [List.take_of_length_le (by omega)] at hs
    rw [List.pairwise_map]
    exact hs

set_option maxHeartbeats 4000000 in
set_option maxRecDepth 100000 in
theorem sort35 (w : World) (base : Nat) (v : Value) (hdrs : List Value) (grps : List (List (List UInt8))) (h : GR w base v hdrs grps) (hne : ∀ g ∈ grps, g ≠ []) (hm : grps.length ≤ 1048576) : Calls Try.prog 35 #[v] w (SortRes w base v hdrs grps) := by
  rcases Row.look h.row with ⟨rfl, hz, hh⟩ | ⟨g, cap, rfl, _⟩
  · have e2 : grps = [] := List.eq_nil_of_length_eq_zero (by rw [← h.len]; exact hz)
    subst hh
    subst e2
    have H : Hid (GR w base (.slice none 0 0) [] []) := h
    clear h
    go_enter Try.func35, Try.ntmps35
    go_wp2
    go_loopg [2] 0 (fun gh s wi => gh = 0 ∧ s = .int .i64 1 ∧ Hid (wi = w))
    case atStart => exact ⟨rfl, rfl, rfl⟩
    case round =>
      obtain ⟨rfl, rfl, HW⟩ := hrel
      go_wp2
      go_end0
      rw [HW.out]
      exact ⟨rfl, Chg.refl _ _, [], [], H.out, rfl, fun _ h => h, List.Perm.refl _, List.Pairwise.nil⟩
  · have hlen := h.len
    generalize hmm : hdrs.length = n at *
    have HGR : Hid (GR w base (.slice (some ⟨g, 0, none⟩) n cap) hdrs grps) := h
    have HN : Hid (hdrs.length = n) := hmm
    have H0 : Hid (S35 w base g cap n (hdrs.zip grps) w (hdrs.zip grps) 1) := ⟨by rw [zip_fst (by omega)]; have := h.row; rw [hmm] at this; exact this, List.Perm.refl _, sorted_one _ key35, Chg.refl _ _⟩
    have HL0 : Hid ((hdrs.zip grps).length = n) := by show _ = _; simp; omega
    have HI : Hid (∀ p ∈ hdrs.zip grps, ∀ W, Chg (fun k => k = g) w W → ∃ b cap', p.1 = .slice (some ⟨b, 0, none⟩) p.2.length cap' ∧ 0 < p.2.length ∧ W.cell? ⟨b, 0, none⟩ = some (encStr (key35 p))) := fun p hp W hW => by
      obtain ⟨k, hk, e⟩ := List.getElem_of_mem hp
      have hk1 : k < hdrs.length := by simp at hk; omega
      have hk2 : k < grps.length := by omega
      rw [List.getElem_zip] at e
      subst e
      obtain ⟨b, cap', e1, e2, e3⟩ := h.rows k _ _ (List.getElem?_eq_getElem hk1) (List.getElem?_eq_getElem hk2)
      have hgne : grps[k] ≠ [] := hne _ (List.getElem_mem _)
      refine ⟨b, cap', e1, List.length_pos_iff.2 hgne, ?_⟩
      rw [e1] at e3
      rcases Row.look e3 with ⟨hv, _⟩ | ⟨b', c', hv, _, _, _, _, hcs, _⟩
      · cases hv
      · cases hv
        refine hW.cell (hcs 0 _ ?_) (fun e => e2 (by rw [show b = g from e]; rfl))
        show (grps[k].map encStr)[0]? = some (encStr (grps[k].headD []))
        cases hq : grps[k] with
        | nil => exact absurd hq hgne
        | cons x r => rfl
    have HFin : Hid (∀ wr L, S35 w base g cap n (hdrs.zip grps) wr L n → SortRes w base (.slice (some ⟨g, 0, none⟩) n cap) hdrs grps (.returned (.tuple #[])) wr) := fun wr L hS => S35.res HGR.out HN.out hS
    have hnb : n ≤ 1048576 := by omega
    clear h hmm hne hm hlen
    generalize hdrs.zip grps = L0 at *
    go_enter Try.func35, Try.ntmps35
    go_wp2
    go_loopg [2] (n - 1) (fun gh s wi => ∃ (i : Nat) (L : List Item), 1 ≤ i ∧ (i ≤ n ∨ i = 1) ∧ gh = n - i ∧ s = .int .i64 i ∧ Hid (S35 w base g cap n L0 wi L i))
    case atStart => exact ⟨1, _, Nat.le_refl _, .inr rfl, rfl, rfl, H0.out⟩
    case round =>
      obtain ⟨i, L, hi1, hi, rfl, rfl, HS⟩ := hrel
      clear H0
      have hLn : L.length = n := by rw [HS.out.perm.length_eq, HL0.out]
      by_cases hin : i < n
      · have hiz : (i : Int) < (n : Int) := by omega
        obtain ⟨x, hx⟩ : ∃ x, L[i]? = some x := ⟨_, List.getElem?_eq_getElem (by omega)⟩
        have HL : Hid (L.length = n) := hLn
        obtain ⟨b, o, e1, d1⟩ := (Row.sl0 HS.out.row).sl.at (i := i) (x := x.1) (by simp [hx])
        cases e1
        rw [Nat.zero_add] at d1
        have hxm : x ∈ L0 := HS.out.perm.mem_iff.1 (List.mem_of_getElem? hx)
        have HXM : Hid (x ∈ L0) := hxm
        obtain ⟨bx, cx, ex, hxp, _⟩ := HI.out x hxm w (Chg.refl _ _)
        have HT0 : Hid (T35 w base g cap n L0 wr L i i x) := ⟨by rw [sh_start]; exact HS.out.row, HS.out.perm, HS.out.sorted, hx, by simp, HS.out.chg⟩
        clear hx HS hLn hxm
        obtain ⟨xh, xg⟩ := x
        simp only at ex hxp d1
        subst ex
        have HXb : Hid (∀ W, Chg (fun k => k = g) w W → W.cell? ⟨bx, 0, none⟩ = some (encStr (key35 (.slice (some ⟨bx, 0, none⟩) xg.length cx, xg)))) := fun W hW => by
          obtain ⟨b', c', e1, _, e3⟩ := HI.out _ HXM.out W hW
          injection e1 with e1
          injection e1 with e1
          injection e1 with e1
          rw [← e1] at e3
          exact e3
        have hxz : (0 : Int) < (xg.length : Int) := by omega
        go_wp2
        go_loopg [4] i (fun gh s wi => ∃ (j : Nat), j ≤ i ∧ gh = j ∧ s = .int .i64 j ∧ Hid (T35 w base g cap n L0 wi L i j (.slice (some ⟨bx, 0, none⟩) xg.length cx, xg)))
        case atStart => exact ⟨i, Nat.le_refl _, rfl, rfl, HT0.out⟩
        case round =>
          obtain ⟨j, hj, hgk, rfl, HT⟩ := hrel
          subst hgk
          clear HT0 d1
          by_cases hj0 : 0 < gk
          · have hjz : (0 : Int) < (gk : Int) := by omega
            obtain ⟨y, hy⟩ : ∃ y, L[gk - 1]? = some y := ⟨_, List.getElem?_eq_getElem (by have := HL.out; omega)⟩
            obtain ⟨b, o, e1, d2⟩ := (Row.sl0 HT.out.row).sl.at (i := gk - 1) (x := y.1) (by rw [List.getElem?_map, sh_at L (by omega) hj (by have := HL.out; omega), hy]; rfl)
            cases e1
            rw [Nat.zero_add] at d2
            obtain ⟨K, hK⟩ : ∃ K, gk = K + 1 := ⟨gk - 1, by omega⟩
            subst hK
            rw [Nat.add_sub_cancel] at d2
            have hym : y ∈ L0 := HT.out.perm.mem_iff.1 (List.mem_of_getElem? hy)
            obtain ⟨b5, c5, ey, hyp, d5⟩ := HI.out y hym wr HT.out.chg
            have d6 := HXb.out wr HT.out.chg
            have HY : Hid (L[K]? = some y) := hy
            clear hy hym
            obtain ⟨yh, yg⟩ := y
            simp only at ey hyp d2
            subst ey
            have hyz : (0 : Int) < (yg.length : Int) := by omega
            generalize hky : key35 (Value.slice (some ⟨b5, 0, none⟩) yg.length c5, yg) = ky at *
            generalize hkx : key35 (Value.slice (some ⟨bx, 0, none⟩) xg.length cx, xg) = kx at *
            have HKy : Hid (key35 (Value.slice (some ⟨b5, 0, none⟩) yg.length c5, yg) = ky) := hky
            have HKx : Hid (key35 (Value.slice (some ⟨bx, 0, none⟩) xg.length cx, xg) = kx) := hkx
            clear hky hkx
            go_upto_region 5 with (fail)
            go_quiet (fail)
            obtain ⟨z, hz⟩ : ∃ z, ((sh L i (K + 1)).map Prod.fst)[K + 1]? = some z := ⟨_, List.getElem?_eq_getElem (by rw [List.length_map, sh_len L hj (by have := HL.out; omega)]; have := HL.out; omega)⟩
            obtain ⟨b, o, e1, d3⟩ := (Row.sl0 HT.out.row).sl.at (i := K + 1) hz
            cases e1
            rw [Nat.zero_add] at d3
            have f3 := Row.free HT.out.row (K + 1)
            clear hz
            by_cases hgt : kx < ky
            · rw [gt_true hgt]
              have HS : Hid (T35 w base g cap n L0 ((wr.drewN nq).setCell ⟨g, K + 1, none⟩ (.slice (some ⟨b5, 0, none⟩) yg.length c5)) L i K (.slice (some ⟨bx, 0, none⟩) xg.length cx, xg)) := (HT.out.drewN nq).step HY.out hj (by have := HL.out; omega) (by rw [HKx.out, HKy.out]; exact hgt)
              go_wp2
              go_roundg K
              case measure => go_light; omega
              case rel => exact ⟨K, by omega, rfl, by go_num, HS.out⟩
            · rw [gt_false hgt]
              have HS : Hid (S35 w base g cap n L0 ((wr.drewN nq).setCell ⟨g, K + 1, none⟩ (.slice (some ⟨bx, 0, none⟩) xg.length cx)) ((sh L i (K + 1)).set (K + 1) (.slice (some ⟨bx, 0, none⟩) xg.length cx, xg)) (i + 1)) := (HT.out.drewN nq).fin hj (fun y' _ hy' => by
                rw [Nat.add_sub_cancel, HY.out] at hy'
                cases hy'
                rw [HKx.out, HKy.out]
                exact List.not_lt.1 hgt)
              go_wp2
              go_roundg (n - (i + 1))
              case measure => go_light; omega
              case rel => exact ⟨i + 1, _, by omega, .inl (by omega), rfl, by go_num, HS.out⟩
          · have e : gk = 0 := by omega
            subst e
            obtain ⟨z, hz⟩ : ∃ z, ((sh L i 0).map Prod.fst)[0]? = some z := ⟨_, List.getElem?_eq_getElem (by rw [List.length_map, sh_len L (by omega) (by have := HL.out; omega)]; have := HL.out; omega)⟩
            obtain ⟨b, o, e1, d3⟩ := (Row.sl0 HT.out.row).sl.at (i := 0) hz
            cases e1
            rw [Nat.zero_add] at d3
            have f3 := Row.free HT.out.row 0
            clear hz
            go_upto_region 5 with (fail)
            go_quiet (fail)
            have HS : Hid (S35 w base g cap n L0 ((wr.drewN nq).setCell ⟨g, 0, none⟩ (.slice (some ⟨bx, 0, none⟩) xg.length cx)) ((sh L i 0).set 0 (.slice (some ⟨bx, 0, none⟩) xg.length cx, xg)) (i + 1)) := (HT.out.drewN nq).fin (Nat.zero_le _) (fun y' h0 _ => absurd h0 (by omega))
            go_wp2
            go_roundg (n - (i + 1))
            case measure => go_light; omega
            case rel => exact ⟨i + 1, _, by omega, .inl (by omega), rfl, by go_num, HS.out⟩
      · have HE : Hid (SortRes w base (.slice (some ⟨g, 0, none⟩) n cap) hdrs grps (.returned (.tuple #[])) wr) := HFin.out wr L ⟨HS.out.row, HS.out.perm, by
          have h1 := HS.out.sorted
          rw [List.take_of_length_le (by omega)] at h1
          rw [List.take_of_length_le (by omega)]
          exact h1, HS.out.chg⟩
        have hiz : ¬ (i : Int) < (n : Int) := by omega
        go_wp2
        go_end0
        exact HE.out
end Go.Proofs.Qxb6616078a
