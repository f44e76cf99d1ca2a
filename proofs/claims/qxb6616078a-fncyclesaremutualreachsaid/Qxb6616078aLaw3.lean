/- The law FnCyclesAreMutualReach. -/
import Derived.Test.Qxb6616078aMod14
namespace Go.Proofs.Qxb6616078a
open Go.RowKit Tj

/-- Two accounts of one graph's cycles agree. -/
theorem G.agree {ss : List (List UInt8)} {ds : List (List Nat)} (h : G ss ds) {w w' : World} {vg vs vg' vs' : Value} {gs gs' : List (List (List UInt8))} {sl sl' : List (List UInt8)} (h1 : Cyc ss ds w vg vs gs sl) (h2 : Cyc ss ds w' vg' vs' gs' sl') : gs' = gs ∧ sl' = sl := by
  have hinj : ∀ u v, u < ss.length → v < ss.length → ss.getD u [] = ss.getD v [] → u = v := fun u v hu hv he => by
    rw [List.getD_eq_getElem?_getD, List.getD_eq_getElem?_getD, List.getElem?_eq_getElem hu, List.getElem?_eq_getElem hv] at he
    exact nodup_inj h.names hu hv he
  exact ⟨IsGroups.unique hinj h2.isG h1.isG, h2.isS.unique h1.isS (fun _ _ => Iff.rfl)⟩

set_option maxHeartbeats 4000000 in
set_option maxRecDepth 100000 in
theorem law3 (w : World) (v1 v2 : Value) (ss : List (List UInt8)) (dss : List (List Int)) (h1 : Sl w v1 (ss.map encStr)) (h2 : Grid w v2 (dss.map ints)) : Calls Try.prog 3 #[v1, v2] w (LawRes w) := by
  obtain ⟨a1, c1, rfl⟩ := h1.shape
  obtain ⟨a2, c2, rfl, _⟩ := h2.shape
  simp only [List.length_map] at *
  have H1 : Hid (Sl w (.slice a1 ss.length c1) (ss.map encStr)) := h1
  have H2 : Hid (Grid w (.slice a2 dss.length c2) (dss.map ints)) := h2
  have HB : Hid (∀ w', w = w' → Calls Try.prog 7 #[.slice a1 ss.length c1, .slice a2 dss.length c2] w' (BytesRes w')) := fun w' e => by
    subst e
    exact bytes7 w _ _ ss _ h1 h2
  have HF : Hid (∀ w', w = w' → Calls Try.prog 8 #[.slice a1 ss.length c1, .slice a2 dss.length c2, .int .i64 0] w' (FitRes ss.length dss.length ss (dss.map ints) w')) := fun w' e => by
    subst e
    have := fits8 w _ _ ss _ h1 h2
    rw [List.length_map] at this
    exact this
  have HW : Hid (∀ w', w = w' → ss.length ≤ 4096 → (∀ s ∈ ss, s.length ≤ 1048576) → ((dss.map ints).map List.length).sum ≤ 131072 → Calls Try.prog 9 #[.slice a1 ss.length c1, .slice a2 dss.length c2] w' (WellRes ss dss w')) := fun w' e k1 k2 k3 => by
    subst e
    refine well9 w _ _ ss dss h1 h2 k1 k2 (fun d hd => ?_)
    have hi : ((dss.map ints).map List.length) = dss.map List.length := by
      rw [List.map_map]
      apply List.map_congr_left
      intro d _
      simp [ints]
    rw [hi] at k3
    exact Nat.le_trans (len_le_sumZ dss d hd) k3
  clear h1 h2
  generalize hm : ss.length = m at *
  generalize hn : dss.length = n at *
  have HM : Hid (ss.length = m) := hm
  clear hm hn
  go_enter Try.func3, Try.ntmps3
  go_upto_if 13 with (first | (go_at_call 7; refine (HB.out _ rfl).mono ?_; rintro e w' ⟨rfl, r, rfl⟩))
  cases r
  · go_wp2
    go_ret
    exact ⟨rfl, Chg.refl _ _⟩
  go_upto_if 17 with (first | (go_at_call 8; refine (HF.out _ rfl).mono ?_; rintro e w'' ⟨rfl, r, rfl, hr⟩; have HR : Hid (r = true → m ≤ 4096 ∧ n ≤ 4096 ∧ (∀ s ∈ ss, s.length ≤ 1048576) ∧ ((dss.map ints).map List.length).sum ≤ 131072) := hr; clear hr))
  cases r
  · go_wp2
    go_ret
    exact ⟨rfl, Chg.refl _ _⟩
  obtain ⟨hm4, hn4, hs4, hsum4⟩ := HR.out rfl
  have HW9 : Hid (Calls Try.prog 9 #[.slice a1 m c1, .slice a2 n c2] w'' (WellRes ss dss w'')) := HW.out _ rfl hm4 hs4 hsum4
  go_upto_if 21 with (first | (go_at_call 9; refine HW9.out.mono ?_; rintro e w9 ⟨hc9, r, rfl, hr⟩; have HC9 : Hid (Chg (fun _ => False) w'' w9) := hc9; have HWl : Hid (r = true → Well ss dss) := hr; clear hc9 hr))
  cases r
  · go_wp2
    go_ret
    exact ⟨rfl, HC9.out⟩
  obtain ⟨hG, hrows⟩ := G.of (HWl.out rfl) (by rw [HM.out]; exact hm4) hs4 hsum4
  have HG : Hid (G ss (natRows dss)) := hG
  have HA : Hid (Sl w9 (.slice a1 m c1) (ss.map encStr)) := H1.out.chg HC9.out
  have HD : Hid (Grid w9 (.slice a2 n c2) ((natRows dss).map nums)) := by
    rw [← hrows]
    exact H2.out.chg HC9.out
  clear H1 H2 HB HF HW HR HW9 HWl hG hrows hs4 hsum4
  generalize natRows dss = ds at *
  have K10 : Hid (∀ W v, Sl W v (ss.map encStr) → Calls Try.prog 10 #[v] W fun e w' => ∃ a c, e = .returned (.slice a m c) ∧ Sl0 w' (.slice a m c) (ss.map encStr) ∧ Chg (fun _ => False) W w') := fun W v hv => by
    have := cloneN HG.out hv
    rw [HM.out] at this
    exact this
  have K11 : Hid (∀ W v, Grid W v (ds.map nums) → Calls Try.prog 11 #[v] W fun e w' => ∃ a c, e = .returned (.slice a m c) ∧ Grid w' (.slice a m c) (ds.map nums) ∧ Chg (fun _ => False) W w') := fun W v hv => by
    have := cloneD HG.out hv
    rw [HM.out] at this
    exact this
  have K12 : Hid (∀ W v1 v2, Sl0 W v1 (ss.map encStr) → Grid W v2 (ds.map nums) → Calls Try.prog 12 #[v1, v2] W fun e w' => ∃ g, e = .returned (.pointer (some ⟨g, 0, none⟩)) ∧ GraphAt w' g ss (ds.map nums) ∧ Chg (fun _ => False) W w') := fun W v1 v2 k1 k2 => buildG HG.out k1 k2
  have K13 : Hid (∀ W g, GraphAt W g ss (ds.map nums) → Calls Try.prog 13 #[.pointer (some ⟨g, 0, none⟩)] W fun e w' => ∃ a1 c1 a2 c2 gs sl, e = .returned (.tuple #[.slice a1 (List.length gs) c1, .slice a2 (List.length sl) c2]) ∧ Cyc ss ds w' (.slice a1 (List.length gs) c1) (.slice a2 (List.length sl) c2) gs sl ∧ Chg (fun _ => False) W w') := fun W g k => cyclesG HG.out k
  have K14 : Hid (∀ W a c a' c', Sl W (.slice a m c) (ss.map encStr) → Grid W (.slice a' m c') (ds.map nums) → Calls Try.prog 14 #[.slice a m c, .slice a' m c'] W (ModRes ss ds W)) := fun W a c a' c' k1 k2 => by
    have := mod14 W ss ds HG.out a c (by rw [HM.out]; exact k1) a' c' (by rw [HM.out]; exact k2)
    rw [HM.out] at this
    exact this
  go_upto_region 8 with (first | (go_at_call 10; refine (K10.out _ _ HA.out).mono ?_; rintro e wa ⟨a3, c3, rfl, hs, hc⟩; have HN : Hid (Sl0 wa (.slice a3 m c3) (ss.map encStr)) := hs; have HCa : Hid (Chg (fun _ => False) w9 wa) := hc; clear hs hc))
  have HD1 : Hid (Grid wa (.slice a2 n c2) (ds.map nums)) := HD.out.chg HCa.out
  go_upto_region 9 with (first | (go_at_call 11; refine (K11.out _ _ HD1.out).mono ?_; rintro e wd ⟨a4, c4, rfl, hs, hc⟩; have HE : Hid (Grid wd (.slice a4 m c4) (ds.map nums)) := hs; have HCb : Hid (Chg (fun _ => False) wa wd) := hc; clear hs hc))
  have HN2 : Hid (Sl0 wd (.slice a3 m c3) (ss.map encStr)) := HN.out.chg HCb.out
  have HE2 : Hid (Grid wd (.slice a4 m c4) (ds.map nums)) := HE.out
  have HCt : Hid (Chg (fun _ => False) w'' wd) := (HC9.out.trans HCa.out (fun _ h => h.elim)).trans HCb.out (fun _ h => h.elim)
  clear HN HE HCa HCb HD HD1 HA HC9
  go_upto_region 10 with (first
    | (go_at_call 10; refine (K10.out _ _ HN2.out.sl).mono ?_; rintro e we ⟨a6, c6, rfl, hs, hc⟩; have HN3 : Hid (Sl0 we (.slice a6 m c6) (ss.map encStr)) := hs; have HCe : Hid (Chg (fun _ => False) wd we) := hc; have HE3 : Hid (Grid we (.slice a4 m c4) (ds.map nums)) := HE2.out.chg hc; clear hs hc)
    | (go_at_call 11; refine (K11.out _ _ HE3.out).mono ?_; rintro e wf ⟨a7, c7, rfl, hs, hc⟩; have HE4 : Hid (Grid wf (.slice a7 m c7) (ds.map nums)) := hs; have HCf : Hid (Chg (fun _ => False) we wf) := hc; have HN4 : Hid (Sl0 wf (.slice a6 m c6) (ss.map encStr)) := HN3.out.chg hc; clear hs hc)
    | (go_at_call 12; refine (K12.out _ _ _ HN4.out HE4.out).mono ?_; rintro e wg ⟨g1, rfl, hs, hc⟩; have HG1 : Hid (GraphAt wg g1 ss (ds.map nums)) := hs; have HCg : Hid (Chg (fun _ => False) wf wg) := hc; clear hs hc))
  have HC2 : Hid (Chg (fun _ => False) wd wg) := (HCe.out.trans HCf.out (fun _ h => h.elim)).trans HCg.out (fun _ h => h.elim)
  have HN5 : Hid (Sl0 wg (.slice a3 m c3) (ss.map encStr)) := HN2.out.chg HC2.out
  have HE5 : Hid (Grid wg (.slice a4 m c4) (ds.map nums)) := HE2.out.chg HC2.out
  have HCt2 : Hid (Chg (fun _ => False) w'' wg) := HCt.out.trans HC2.out (fun _ h => h.elim)
  clear HN2 HE2 HCt HN3 HCe HE3 HE4 HCf HN4 HCg HC2 K10 K11 K12
  go_upto_region 11 with (first | (go_at_call 13; refine (K13.out _ _ HG1.out).mono ?_; rintro e wl ⟨a10, c10, a11, c11, gs, sl, rfl, hs, hc⟩; have HY : Hid (Cyc ss ds wl (.slice a10 gs.length c10) (.slice a11 sl.length c11) gs sl) := hs; have HCl : Hid (Chg (fun _ => False) wg wl) := hc; clear hs hc))
  have K14' : Hid (Calls Try.prog 14 #[.slice a3 m c3, .slice a4 m c4] wl (ModRes ss ds wl)) := K14.out wl _ _ _ _ (HN5.out.chg HCl.out).sl (HE5.out.chg HCl.out)
  clear K14 K13
  go_upto_region 12 with (first | (go_at_call 14; refine K14'.out.mono ?_; rintro e wo ⟨a12, c12, a13, c13, gs', sl', rfl, hs, hc⟩; have HZ : Hid (Cyc ss ds wo (.slice a12 gs'.length c12) (.slice a13 sl'.length c13) gs' sl') := hs; have HCo : Hid (Chg (fun _ => False) wl wo) := hc; clear hs hc))
  have HSame : Hid (gs' = gs ∧ sl' = sl) := HG.out.agree HY.out HZ.out
  have hsl := self_len HY.out.isS
  have hgl := HY.out.gl
  rw [HM.out] at hsl
  have HGl : Hid (∀ g ∈ gs, g.length ≤ 1048577) := fun g hg => by
    have := group_len HY.out.isG g hg
    rw [HM.out] at this
    omega
  have HY2 : Hid (Grid wo (.slice a10 gs.length c10) (gs.map fun g => g.map encStr) ∧ Sl wo (.slice a11 sl.length c11) (sl.map encStr)) := ⟨HY.out.g.chg HCo.out, HY.out.s.chg HCo.out⟩
  have HZ2 : Hid (Grid wo (.slice a12 gs.length c12) (gs.map fun g => g.map encStr) ∧ Sl wo (.slice a13 sl.length c13) (sl.map encStr)) := by
    have h1 := HZ.out.g
    have h2 := HZ.out.s
    rw [HSame.out.1] at h1
    rw [HSame.out.2] at h2
    exact ⟨h1, h2⟩
  obtain ⟨eg, es⟩ := HSame.out
  subst eg
  subst es
  have HCt4 : Hid (Chg (fun _ => False) w'' wo) := (HCt2.out.trans HCl.out (fun _ h => h.elim)).trans HCo.out (fun _ h => h.elim)
  clear HY HZ HSame HCl HCo HCt2 HG1 HN5 HE5 K14'
  have K15 : Hid (Calls Try.prog 15 #[.slice a10 gs'.length c10, .slice a12 gs'.length c12] wo fun e w' => e = .returned (.bool true) ∧ ∃ q, w' = wo.drewN q) := same15 wo _ _ gs' HY2.out.1 HZ2.out.1 (by omega) HGl.out
  have K16 : Hid (∀ q, Calls Try.prog 16 #[.slice a11 sl'.length c11, .slice a13 sl'.length c13] (wo.drewN q) fun e w' => e = .returned (.bool true) ∧ ∃ q', w' = (wo.drewN q).drewN q') := fun q => by
    have hc : Chg (fun _ => False) wo (wo.drewN q) := Chg.drewN (fun _ => False) wo q
    exact same16 (wo.drewN q) _ _ sl' (HY2.out.2.chg hc) (HZ2.out.2.chg hc) (by omega)
  have HFin : Hid (∀ q, Chg (fun _ => False) w'' (wo.drewN q)) := fun q => HCt4.out.trans (Chg.drewN (fun _ => False) wo q) (fun _ h => h.elim)
  clear HY2 HZ2 HGl HCt4 HG
  generalize gs'.length = gn at *
  generalize sl'.length = sn at *
  go_wp2_with (first | (go_at_call 15; refine K15.out.mono ?_; rintro e wq ⟨rfl, q, rfl⟩) | (go_at_call 16; refine (K16.out _).mono ?_; rintro e wq ⟨rfl, q', rfl⟩))
  go_ret
  exact ⟨rfl, by first | exact HFin.out _ | (rw [World.drewN_drewN]; exact HFin.out _)⟩
end Go.Proofs.Qxb6616078a
