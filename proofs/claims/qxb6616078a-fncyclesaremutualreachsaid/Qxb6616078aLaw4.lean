/- The law FnCyclesSameOnReverseAndMatchPeeling. -/
import Derived.Test.Qxb6616078aGraph
namespace Go.Proofs.Qxb6616078a
open Go.RowKit Tj

/-- The law's end: true, and nothing that lay before has turned. -/
def LawRes (w : World) (e : Ending) (w' : World) : Prop := e = .returned (.bool true) ∧ Chg (fun _ => False) w w'

theorem one_str (ss : List (List UInt8)) : ∀ v ∈ ss.map encStr, v.oneCell' = true := fun v hv => by
  obtain ⟨s, _, rfl⟩ := List.mem_map.1 hv
  rfl
theorem one_nums (ds : List (List Nat)) : ∀ xs ∈ ds.map nums, ∀ v ∈ xs, v.oneCell' = true := fun xs hxs v hv => by
  obtain ⟨d, _, rfl⟩ := List.mem_map.1 hxs
  unfold nums at hv
  obtain ⟨x, _, rfl⟩ := List.mem_map.1 hv
  rfl
theorem nums_le {ss : List (List UInt8)} {ds : List (List Nat)} (h : G ss ds) : ∀ xs ∈ ds.map nums, xs.length ≤ 1048577 := fun xs hxs => by
  obtain ⟨d, hd, rfl⟩ := List.mem_map.1 hxs
  rw [nums_length]
  have := h.each d hd
  omega

theorem len_le_sumZ : ∀ (l : List (List Int)) (d : List Int), d ∈ l → d.length ≤ (l.map List.length).sum
  | [], d, h => by simp at h
  | e :: r, d, h => by
    rw [List.map_cons, List.sum_cons]
    rcases List.mem_cons.1 h with rfl | h
    · omega
    · have := len_le_sumZ r d h
      omega

theorem cloneN {ss : List (List UInt8)} {ds : List (List Nat)} (h : G ss ds) {W : World} {v : Value} (hv : Sl W v (ss.map encStr)) : Calls Try.prog 10 #[v] W fun e w' => ∃ a c, e = .returned (.slice a ss.length c) ∧ Sl0 w' (.slice a ss.length c) (ss.map encStr) ∧ Chg (fun _ => False) W w' := by
  refine (clone10 W v _ hv (by have := h.n; simp; omega) (one_str ss)).mono ?_
  rintro e w' ⟨v', rfl, h1, h2, _⟩
  obtain ⟨a, c, e1⟩ := h1.sl.shape
  rw [List.length_map] at e1
  subst e1
  exact ⟨a, c, rfl, h1, h2⟩

theorem cloneD {ss : List (List UInt8)} {ds : List (List Nat)} (h : G ss ds) {W : World} {v : Value} (hv : Grid W v (ds.map nums)) : Calls Try.prog 11 #[v] W fun e w' => ∃ a c, e = .returned (.slice a ss.length c) ∧ Grid w' (.slice a ss.length c) (ds.map nums) ∧ Chg (fun _ => False) W w' := by
  refine (clone11 W v _ hv (by have := h.n; have := h.len; simp; omega) (nums_le h) (one_nums ds)).mono ?_
  rintro e w' ⟨v', rfl, h1, h2⟩
  obtain ⟨a, c, e1, _⟩ := h1.shape
  rw [List.length_map, h.len] at e1
  subst e1
  exact ⟨a, c, rfl, h1, h2⟩

theorem revD {ss : List (List UInt8)} {ds : List (List Nat)} (h : G ss ds) {W : World} {v : Value} (hv : Grid W v (ds.map nums)) : Calls Try.prog 18 #[v] W fun e w' => ∃ a c, e = .returned (.slice a ss.length c) ∧ Grid w' (.slice a ss.length c) ((revs ss.length ds).map nums) ∧ Chg (fun _ => False) W w' := by
  refine (rev18 W v ds hv (by have := h.n; have := h.len; omega) h.each h.nodup (by rw [h.len]; exact h.lt)).mono ?_
  rintro e w' ⟨v', rfl, h1, h2⟩
  have e0 : ((List.range ds.length).map fun x => nums (revTo (adjOf ds) ds.length x)) = (revs ss.length ds).map nums := by
    unfold revs
    rw [List.map_map, h.len]
    rfl
  rw [e0] at h1
  obtain ⟨a, c, e1, _⟩ := h1.shape
  rw [List.length_map, h.rev.len] at e1
  subst e1
  exact ⟨a, c, rfl, h1, h2⟩

theorem buildG {ss : List (List UInt8)} {ds : List (List Nat)} (h : G ss ds) {W : World} {v1 v2 : Value} (h1 : Sl0 W v1 (ss.map encStr)) (h2 : Grid W v2 (ds.map nums)) : Calls Try.prog 12 #[v1, v2] W fun e w' => ∃ g, e = .returned (.pointer (some ⟨g, 0, none⟩)) ∧ GraphAt w' g ss (ds.map nums) ∧ Chg (fun _ => False) W w' := by
  refine (build12 W v1 v2 ss (ds.map nums) h1 h2 h.n h.short).mono ?_
  rintro e w' ⟨g, rfl, h3, h4⟩
  exact ⟨g, rfl, h3, h4⟩

/-- What Cycles hands back. -/
structure Cyc (ss : List (List UInt8)) (ds : List (List Nat)) (w : World) (vg vs : Value) (gs : List (List (List UInt8))) (sl : List (List UInt8)) : Prop where
  g : Grid w vg (gs.map fun g => g.map encStr)
  s : Sl w vs (sl.map encStr)
  isG : IsGroups (fun v => ss.getD v []) ss.length (fun u v => Tj.Reach (adjOf ds) u v ∧ Tj.Reach (adjOf ds) v u) gs
  isS : IsSelf (fun v => ss.getD v []) ss.length (fun v => v ∈ adjOf ds v) sl
  gl : gs.length ≤ 4096

theorem Cyc.chg {ss : List (List UInt8)} {ds : List (List Nat)} {w w1 : World} {vg vs : Value} {gs : List (List (List UInt8))} {sl : List (List UInt8)} (h : Cyc ss ds w vg vs gs sl) (hc : Chg (fun _ => False) w w1) : Cyc ss ds w1 vg vs gs sl := ⟨h.g.chg hc, h.s.chg hc, h.isG, h.isS, h.gl⟩

theorem cyclesG {ss : List (List UInt8)} {ds : List (List Nat)} (h : G ss ds) {W : World} {g : Nat} (h1 : GraphAt W g ss (ds.map nums)) : Calls Try.prog 13 #[.pointer (some ⟨g, 0, none⟩)] W fun e w' => ∃ a1 c1 a2 c2 gs sl, e = .returned (.tuple #[.slice a1 (List.length gs) c1, .slice a2 (List.length sl) c2]) ∧ Cyc ss ds w' (.slice a1 (List.length gs) c1) (.slice a2 (List.length sl) c2) gs sl ∧ Chg (fun _ => False) W w' := by
  refine (cycles13 W g ss ds h1 h.n h.len h.sum h.lt h.names).mono ?_
  rintro e w' ⟨vg, vs, gs, sl, rfl, hg, hs, hG, hS, hl, hc⟩
  obtain ⟨a1, c1, e1, _⟩ := hg.shape
  obtain ⟨a2, c2, e2⟩ := hs.shape
  rw [List.length_map] at e1 e2
  subst e1
  subst e2
  exact ⟨a1, c1, a2, c2, gs, sl, rfl, ⟨hg, hs, hG, hS, hl⟩, hc⟩

set_option maxHeartbeats 4000000 in
set_option maxRecDepth 100000 in
theorem law4 (w : World) (v1 v2 : Value) (ss : List (List UInt8)) (dss : List (List Int)) (h1 : Sl w v1 (ss.map encStr)) (h2 : Grid w v2 (dss.map ints)) : Calls Try.prog 4 #[v1, v2] w (LawRes w) := by
  obtain ⟨a1, c1, rfl⟩ := h1.shape
  obtain ⟨a2, c2, rfl, _⟩ := h2.shape
  simp only [List.length_map] at *
  have H1 : Hid (Sl w (.slice a1 ss.length c1) (ss.map encStr)) := h1
  have H2 : Hid (Grid w (.slice a2 dss.length c2) (dss.map ints)) := h2
  have HB : Hid (∀ w', w = w' → Calls Try.prog 17 #[.slice a1 ss.length c1, .slice a2 dss.length c2] w' (BytesRes w')) := fun w' e => by
    subst e
    exact bytes17 w _ _ ss _ h1 h2
  have HF : Hid (∀ w', w = w' → Calls Try.prog 8 #[.slice a1 ss.length c1, .slice a2 dss.length c2, .int .i64 0] w' (FitRes ss.length dss.length ss (dss.map ints) w')) := fun w' e => by
    subst e
    have := fits8 w _ _ ss _ h1 h2
    rw [List.length_map] at this
    exact this
  have HW : Hid (∀ w', w = w' → ss.length ≤ 4096 → (∀ s ∈ ss, s.length ≤ 1048576) → ((dss.map ints).map List.length).sum ≤ 131072 → Calls Try.prog 9 #[.slice a1 ss.length c1, .slice a2 dss.length c2] w' (WellRes ss dss w')) := fun w' e k1 k2 k3 => by
    subst e
    refine well9 w _ _ ss dss h1 h2 k1 k2 (fun d hd => ?_)
    have hi : ((dss.map ints).map List.length) = dss.map List.length := by
      rw [List.map_map]
      apply List.map_congr_left
      intro d _
      simp [ints]
    rw [hi] at k3
    exact Nat.le_trans (len_le_sumZ dss d hd) k3
  clear h1 h2
  generalize hm : ss.length = m at *
  generalize hn : dss.length = n at *
  have HM : Hid (ss.length = m) := hm
  clear hm hn
  go_enter Try.func4, Try.ntmps4
  go_upto_if 17 with (first | (go_at_call 17; refine (HB.out _ rfl).mono ?_; rintro e w' ⟨rfl, r, rfl⟩))
  cases r
  · go_wp2
    go_ret
    exact ⟨rfl, Chg.refl _ _⟩
  go_upto_if 21 with (first | (go_at_call 8; refine (HF.out _ rfl).mono ?_; rintro e w'' ⟨rfl, r, rfl, hr⟩; have HR : Hid (r = true → m ≤ 4096 ∧ n ≤ 4096 ∧ (∀ s ∈ ss, s.length ≤ 1048576) ∧ ((dss.map ints).map List.length).sum ≤ 131072) := hr; clear hr))
  cases r
  · go_wp2
    go_ret
    exact ⟨rfl, Chg.refl _ _⟩
  obtain ⟨hm4, hn4, hs4, hsum4⟩ := HR.out rfl
  have HW9 : Hid (Calls Try.prog 9 #[.slice a1 m c1, .slice a2 n c2] w'' (WellRes ss dss w'')) := HW.out _ rfl hm4 hs4 hsum4
  go_upto_if 25 with (first | (go_at_call 9; refine HW9.out.mono ?_; rintro e w9 ⟨hc9, r, rfl, hr⟩; have HC9 : Hid (Chg (fun _ => False) w'' w9) := hc9; have HWl : Hid (r = true → Well ss dss) := hr; clear hc9 hr))
  cases r
  · go_wp2
    go_ret
    exact ⟨rfl, HC9.out⟩
  obtain ⟨hG, hrows⟩ := G.of (HWl.out rfl) (by rw [HM.out]; exact hm4) hs4 hsum4
  have HG : Hid (G ss (natRows dss)) := hG
  have HA : Hid (Sl w9 (.slice a1 m c1) (ss.map encStr)) := H1.out.chg HC9.out
  have HD : Hid (Grid w9 (.slice a2 n c2) ((natRows dss).map nums)) := by
    rw [← hrows]
    exact H2.out.chg HC9.out
  clear H1 H2 HB HF HW HR HW9 HWl hG hrows hs4 hsum4
  generalize natRows dss = ds at *
  have K10 : Hid (∀ W v, Sl W v (ss.map encStr) → Calls Try.prog 10 #[v] W fun e w' => ∃ a c, e = .returned (.slice a m c) ∧ Sl0 w' (.slice a m c) (ss.map encStr) ∧ Chg (fun _ => False) W w') := fun W v hv => by
    have := cloneN HG.out hv
    rw [HM.out] at this
    exact this
  have K11 : Hid (∀ W v, Grid W v (ds.map nums) → Calls Try.prog 11 #[v] W fun e w' => ∃ a c, e = .returned (.slice a m c) ∧ Grid w' (.slice a m c) (ds.map nums) ∧ Chg (fun _ => False) W w') := fun W v hv => by
    have := cloneD HG.out hv
    rw [HM.out] at this
    exact this
  have K11r : Hid (∀ W v, Grid W v ((revs m ds).map nums) → Calls Try.prog 11 #[v] W fun e w' => ∃ a c, e = .returned (.slice a m c) ∧ Grid w' (.slice a m c) ((revs m ds).map nums) ∧ Chg (fun _ => False) W w') := fun W v hv => by
    have := cloneD HG.out.rev (W := W) (v := v) (by rw [HM.out]; exact hv)
    rw [HM.out] at this
    exact this
  have K18 : Hid (∀ W v, Grid W v (ds.map nums) → Calls Try.prog 18 #[v] W fun e w' => ∃ a c, e = .returned (.slice a m c) ∧ Grid w' (.slice a m c) ((revs m ds).map nums) ∧ Chg (fun _ => False) W w') := fun W v hv => by
    have := revD HG.out hv
    rw [HM.out] at this
    exact this
  have K12 : Hid (∀ W v1 v2, Sl0 W v1 (ss.map encStr) → Grid W v2 (ds.map nums) → Calls Try.prog 12 #[v1, v2] W fun e w' => ∃ g, e = .returned (.pointer (some ⟨g, 0, none⟩)) ∧ GraphAt w' g ss (ds.map nums) ∧ Chg (fun _ => False) W w') := fun W v1 v2 k1 k2 => buildG HG.out k1 k2
  have K12r : Hid (∀ W v1 v2, Sl0 W v1 (ss.map encStr) → Grid W v2 ((revs m ds).map nums) → Calls Try.prog 12 #[v1, v2] W fun e w' => ∃ g, e = .returned (.pointer (some ⟨g, 0, none⟩)) ∧ GraphAt w' g ss ((revs m ds).map nums) ∧ Chg (fun _ => False) W w') := fun W v1 v2 k1 k2 => by
    have := buildG HG.out.rev (W := W) (v1 := v1) (v2 := v2) k1 (by rw [HM.out]; exact k2)
    rw [HM.out] at this
    exact this
  have K13 : Hid (∀ W g, GraphAt W g ss (ds.map nums) → Calls Try.prog 13 #[.pointer (some ⟨g, 0, none⟩)] W fun e w' => ∃ a1 c1 a2 c2 gs sl, e = .returned (.tuple #[.slice a1 (List.length gs) c1, .slice a2 (List.length sl) c2]) ∧ Cyc ss ds w' (.slice a1 (List.length gs) c1) (.slice a2 (List.length sl) c2) gs sl ∧ Chg (fun _ => False) W w') := fun W g k => cyclesG HG.out k
  have K13r : Hid (∀ W g, GraphAt W g ss ((revs m ds).map nums) → Calls Try.prog 13 #[.pointer (some ⟨g, 0, none⟩)] W fun e w' => ∃ a1 c1 a2 c2 gs sl, e = .returned (.tuple #[.slice a1 (List.length gs) c1, .slice a2 (List.length sl) c2]) ∧ Cyc ss (revs m ds) w' (.slice a1 (List.length gs) c1) (.slice a2 (List.length sl) c2) gs sl ∧ Chg (fun _ => False) W w') := fun W g k => by
    have := cyclesG HG.out.rev (W := W) (g := g) (by rw [HM.out]; exact k)
    rw [HM.out] at this
    exact this
  have K19 : Hid (∀ W v, Grid W v (ds.map nums) → Calls Try.prog 19 #[v] W (PeelRes m (adjOf ds) W)) := fun W v hv => by
    have := peel19 W v ds hv (by rw [HG.out.len, HM.out]; exact hm4) HG.out.each HG.out.nodup (by rw [HG.out.len]; exact HG.out.lt)
    rw [HG.out.len, HM.out] at this
    exact this
  go_upto_region 8 with (first | (go_at_call 10; refine (K10.out _ _ HA.out).mono ?_; rintro e wa ⟨a3, c3, rfl, hs, hc⟩; have HN : Hid (Sl0 wa (.slice a3 m c3) (ss.map encStr)) := hs; have HCa : Hid (Chg (fun _ => False) w9 wa) := hc; clear hs hc))
  have HD1 : Hid (Grid wa (.slice a2 n c2) (ds.map nums)) := HD.out.chg HCa.out
  go_upto_region 9 with (first | (go_at_call 11; refine (K11.out _ _ HD1.out).mono ?_; rintro e wb ⟨a4, c4, rfl, hs, hc⟩; have HE : Hid (Grid wb (.slice a4 m c4) (ds.map nums)) := hs; have HCb : Hid (Chg (fun _ => False) wa wb) := hc; clear hs hc))
  go_upto_region 10 with (first | (go_at_call 18; refine (K18.out _ _ HE.out).mono ?_; rintro e wd ⟨a5, c5, rfl, hs, hc⟩; have HR : Hid (Grid wd (.slice a5 m c5) ((revs m ds).map nums)) := hs; have HCd : Hid (Chg (fun _ => False) wb wd) := hc; clear hs hc))
  have HN2 : Hid (Sl0 wd (.slice a3 m c3) (ss.map encStr)) := (HN.out.chg HCb.out).chg HCd.out
  have HE2 : Hid (Grid wd (.slice a4 m c4) (ds.map nums)) := HE.out.chg HCd.out
  have HCt : Hid (Chg (fun _ => False) w'' wd) := ((HC9.out.trans HCa.out (fun _ h => h.elim)).trans HCb.out (fun _ h => h.elim)).trans HCd.out (fun _ h => h.elim)
  clear HN HE HCa HCb HCd HD HD1 HA HC9
  go_upto_region 11 with (first
    | (go_at_call 10; refine (K10.out _ _ HN2.out.sl).mono ?_; rintro e we ⟨a6, c6, rfl, hs, hc⟩; have HN3 : Hid (Sl0 we (.slice a6 m c6) (ss.map encStr)) := hs; have HCe : Hid (Chg (fun _ => False) wd we) := hc; have HE3 : Hid (Grid we (.slice a4 m c4) (ds.map nums)) := HE2.out.chg hc; clear hs hc)
    | (go_at_call 11; refine (K11.out _ _ HE3.out).mono ?_; rintro e wf ⟨a7, c7, rfl, hs, hc⟩; have HE4 : Hid (Grid wf (.slice a7 m c7) (ds.map nums)) := hs; have HCf : Hid (Chg (fun _ => False) we wf) := hc; have HN4 : Hid (Sl0 wf (.slice a6 m c6) (ss.map encStr)) := HN3.out.chg hc; clear hs hc)
    | (go_at_call 12; refine (K12.out _ _ _ HN4.out HE4.out).mono ?_; rintro e wg ⟨g1, rfl, hs, hc⟩; have HG1 : Hid (GraphAt wg g1 ss (ds.map nums)) := hs; have HCg : Hid (Chg (fun _ => False) wf wg) := hc; clear hs hc))
  have HC2 : Hid (Chg (fun _ => False) wd wg) := (HCe.out.trans HCf.out (fun _ h => h.elim)).trans HCg.out (fun _ h => h.elim)
  have HN5 : Hid (Sl0 wg (.slice a3 m c3) (ss.map encStr)) := HN2.out.chg HC2.out
  have HE5 : Hid (Grid wg (.slice a4 m c4) (ds.map nums)) := HE2.out.chg HC2.out
  have HR5 : Hid (Grid wg (.slice a5 m c5) ((revs m ds).map nums)) := HR.out.chg HC2.out
  have HCt2 : Hid (Chg (fun _ => False) w'' wg) := HCt.out.trans HC2.out (fun _ h => h.elim)
  clear HN2 HE2 HR HCt HN3 HCe HE3 HE4 HCf HN4 HCg HC2
  go_upto_region 12 with (first
    | (go_at_call 10; refine (K10.out _ _ HN5.out.sl).mono ?_; rintro e wi ⟨a8, c8, rfl, hs, hc⟩; have HN6 : Hid (Sl0 wi (.slice a8 m c8) (ss.map encStr)) := hs; have HCi : Hid (Chg (fun _ => False) wg wi) := hc; have HR6 : Hid (Grid wi (.slice a5 m c5) ((revs m ds).map nums)) := HR5.out.chg hc; clear hs hc)
    | (go_at_call 11; refine (K11r.out _ _ HR6.out).mono ?_; rintro e wj ⟨a9, c9, rfl, hs, hc⟩; have HR7 : Hid (Grid wj (.slice a9 m c9) ((revs m ds).map nums)) := hs; have HCj : Hid (Chg (fun _ => False) wi wj) := hc; have HN7 : Hid (Sl0 wj (.slice a8 m c8) (ss.map encStr)) := HN6.out.chg hc; clear hs hc)
    | (go_at_call 12; refine (K12r.out _ _ _ HN7.out HR7.out).mono ?_; rintro e wk ⟨g2, rfl, hs, hc⟩; have HG2 : Hid (GraphAt wk g2 ss ((revs m ds).map nums)) := hs; have HCk : Hid (Chg (fun _ => False) wj wk) := hc; clear hs hc))
  have HC3 : Hid (Chg (fun _ => False) wg wk) := (HCi.out.trans HCj.out (fun _ h => h.elim)).trans HCk.out (fun _ h => h.elim)
  have HG3 : Hid (GraphAt wk g1 ss (ds.map nums)) := HG1.out.chg HC3.out
  have HE6 : Hid (Grid wk (.slice a4 m c4) (ds.map nums)) := HE5.out.chg HC3.out
  have HCt3 : Hid (Chg (fun _ => False) w'' wk) := HCt2.out.trans HC3.out (fun _ h => h.elim)
  clear HN5 HE5 HR5 HCt2 HN6 HCi HR6 HR7 HCj HN7 HCk HC3 HG1 K10 K11 K11r K12 K12r K18
  go_upto_region 13 with (first | (go_at_call 13; refine (K13.out _ _ HG3.out).mono ?_; rintro e wl ⟨a10, c10, a11, c11, gs, sl, rfl, hs, hc⟩; have HY : Hid (Cyc ss ds wl (.slice a10 gs.length c10) (.slice a11 sl.length c11) gs sl) := hs; have HCl : Hid (Chg (fun _ => False) wk wl) := hc; have HG4 : Hid (GraphAt wl g2 ss ((revs m ds).map nums)) := HG2.out.chg hc; clear hs hc))
  go_upto_region 14 with (first | (go_at_call 13; refine (K13r.out _ _ HG4.out).mono ?_; rintro e wo ⟨a12, c12, a13, c13, gs', sl', rfl, hs, hc⟩; have HZ : Hid (Cyc ss (revs m ds) wo (.slice a12 gs'.length c12) (.slice a13 sl'.length c13) gs' sl') := hs; have HCo : Hid (Chg (fun _ => False) wl wo) := hc; clear hs hc))
  have HE7 : Hid (Grid wo (.slice a4 m c4) (ds.map nums)) := (HE6.out.chg HCl.out).chg HCo.out
  have HSame : Hid (gs' = gs ∧ sl' = sl) := by
    have h1 := HG.out.same HY.out.isG (by rw [HM.out]; have := HZ.out.isG; rw [HM.out] at this; exact this) HY.out.isS (by rw [HM.out]; have := HZ.out.isS; rw [HM.out] at this; exact this)
    exact ⟨h1.1.symm, h1.2.symm⟩
  have HFound : Hid ((gs.length = 0 ∧ sl.length = 0) ↔ Acyclic m (adjOf ds)) := by
    have := found_iff HY.out.isG HY.out.isS
    rw [HM.out] at this
    exact this
  have hsl := self_len HY.out.isS
  have hgl := HY.out.gl
  rw [HM.out] at hsl
  have HGl : Hid (∀ g ∈ gs, g.length ≤ 1048577) := fun g hg => by
    have := group_len HY.out.isG g hg
    rw [HM.out] at this
    omega
  have HY2 : Hid (Grid wo (.slice a10 gs.length c10) (gs.map fun g => g.map encStr) ∧ Sl wo (.slice a11 sl.length c11) (sl.map encStr)) := ⟨HY.out.g.chg HCo.out, HY.out.s.chg HCo.out⟩
  have HZ2 : Hid (Grid wo (.slice a12 gs.length c12) (gs.map fun g => g.map encStr) ∧ Sl wo (.slice a13 sl.length c13) (sl.map encStr)) := by
    have h1 := HZ.out.g
    have h2 := HZ.out.s
    rw [HSame.out.1] at h1
    rw [HSame.out.2] at h2
    exact ⟨h1, h2⟩
  obtain ⟨eg, es⟩ := HSame.out
  subst eg
  subst es
  have HCt4 : Hid (Chg (fun _ => False) w'' wo) := (HCt3.out.trans HCl.out (fun _ h => h.elim)).trans HCo.out (fun _ h => h.elim)
  clear HY HZ HSame HG3 HE6 HCl HCo HG4 HG2 K13 K13r HCt3
  go_upto_region 15 with (first | (go_at_call 19; refine (K19.out _ _ HE7.out).mono ?_; rintro e wp ⟨hc, r, rfl, hr⟩; have HP : Hid (r = true ↔ Acyclic m (adjOf ds)) := hr; have HCp : Hid (Chg (fun _ => False) wo wp) := hc; clear hr hc))
  have K15 : Hid (Calls Try.prog 15 #[.slice a10 gs'.length c10, .slice a12 gs'.length c12] wp fun e w' => e = .returned (.bool true) ∧ ∃ q, w' = wp.drewN q) := same15 wp _ _ gs' (HY2.out.1.chg HCp.out) (HZ2.out.1.chg HCp.out) (by omega) HGl.out
  have K16 : Hid (∀ q, Calls Try.prog 16 #[.slice a11 sl'.length c11, .slice a13 sl'.length c13] (wp.drewN q) fun e w' => e = .returned (.bool true) ∧ ∃ q', w' = (wp.drewN q).drewN q') := fun q => by
    have hc : Chg (fun _ => False) wo (wp.drewN q) := HCp.out.trans (Chg.drewN (fun _ => False) wp q) (fun _ h => h.elim)
    exact same16 (wp.drewN q) _ _ sl' (HY2.out.2.chg hc) (HZ2.out.2.chg hc) (by omega)
  have HFin : Hid (∀ q, Chg (fun _ => False) w'' (wp.drewN q)) := fun q => (HCt4.out.trans HCp.out (fun _ h => h.elim)).trans (Chg.drewN (fun _ => False) wp q) (fun _ h => h.elim)
  have hiff : r = true ↔ (gs'.length = 0 ∧ sl'.length = 0) := HP.out.trans HFound.out.symm
  clear HY2 HZ2 HGl HFound HP HCp HCt4 HE7 K19 HG
  generalize gs'.length = gn at *
  generalize sl'.length = sn at *
  by_cases hg0 : gn = 0
  · subst hg0
    by_cases hs0 : sn = 0
    · subst hs0
      have hr : r = true := hiff.2 ⟨rfl, rfl⟩
      subst hr
      clear hiff
      go_wp2_with (first | (go_at_call 15; refine K15.out.mono ?_; rintro e wq ⟨rfl, q, rfl⟩) | (go_at_call 16; refine (K16.out _).mono ?_; rintro e wq ⟨rfl, q', rfl⟩))
      go_ret
      exact ⟨rfl, by first | exact HFin.out _ | (rw [World.drewN_drewN]; exact HFin.out _)⟩
    · have hr : r = false := by
        cases r
        · rfl
        · exact absurd (hiff.1 rfl).2 hs0
      subst hr
      have hsz : (0 : Int) < (sn : Int) := by omega
      clear hiff
      go_wp2_with (first | (go_at_call 15; refine K15.out.mono ?_; rintro e wq ⟨rfl, q, rfl⟩) | (go_at_call 16; refine (K16.out _).mono ?_; rintro e wq ⟨rfl, q', rfl⟩))
      go_ret
      exact ⟨by show Ending.returned (.bool (decide (0 < sn))) = _; rw [decide_eq_true (show 0 < sn by omega)], by first | exact HFin.out _ | (rw [World.drewN_drewN]; exact HFin.out _)⟩
  · have hr : r = false := by
      cases r
      · rfl
      · exact absurd (hiff.1 rfl).1 hg0
    subst hr
    have hgz : (0 : Int) < (gn : Int) := by omega
    clear hiff
    go_wp2_with (first | (go_at_call 15; refine K15.out.mono ?_; rintro e wq ⟨rfl, q, rfl⟩) | (go_at_call 16; refine (K16.out _).mono ?_; rintro e wq ⟨rfl, q', rfl⟩))
    go_ret
    exact ⟨rfl, by first | exact HFin.out _ | (rw [World.drewN_drewN]; exact HFin.out _)⟩
end Go.Proofs.Qxb6616078a
