/- acyclicByPeeling. -/
import Derived.Test.Qxb6616078aRev
namespace Go.Proofs.Qxb6616078a
open Go.RowKit Tj

/-- left's row and the queue. -/
structure LS (n : Nat) (B : Nat) (w wr : World) (L : Nat → Nat) (Q : List Nat) (vq : Value) : Prop where
  blk : Blk wr B (numRow n L) 3
  row : wr.ownsRow (B + 1) 3 1 vq Q.length (nums Q)
  chg : Chg (fun _ => False) w wr

theorem LS.setL {n B : Nat} {w wr : World} {L : Nat → Nat} {Q : List Nat} {vq : Value} (h : LS n B w wr L Q vq) (hB : w.heap.size ≤ B) (p x : Nat) : LS n B w (wr.setCell ⟨B, p, none⟩ (.int .i64 x)) (upd L p x) Q vq where
  blk := by
    have := h.blk.set p (.int .i64 x)
    rw [numRow_set] at this
    exact this
  row := Row.chg h.row (Chg.setCell wr ⟨B, p, none⟩ _) (fun b hb hf => by
    have := (own_ge' h.row hb).1
    have e : b = B := hf
    omega)
  chg := h.chg.trans (Chg.setCell wr ⟨B, p, none⟩ _) (fun b hb => .inr (by have e : b = B := hb; omega))

theorem LS.push {n B : Nat} {w wr : World} {L : Nat → Nat} {Q : List Nat} {vq : Value} (h : LS n B w wr L Q vq) (hB : w.heap.size ≤ B) {p : Nat} {w4 : World} {v' : Value} (hr : w4.ownsRow (B + 1) 3 1 v' (Q.length + 1) (nums Q ++ [.int .i64 p])) (hc : Chg (fun k => vq.ownBlock = some k) wr w4) : LS n B w w4 L (Q ++ [p]) v' where
  blk := h.blk.chg hc (fun e => by have := (own_ge' h.row e).1; omega)
  row := by
    have e : nums (Q ++ [p]) = nums Q ++ [.int .i64 p] := by simp [nums]
    rw [e, List.length_append]
    exact hr
  chg := h.chg.trans hc (fun b hb => .inr (by have := (own_ge' h.row hb).1; omega))

def leftTo (adj : Nat → List Nat) (k u : Nat) : Nat := if u < k then (adj u).length else 0
theorem leftTo_succ (adj : Nat → List Nat) (k : Nat) : upd (leftTo adj k) k (adj k).length = leftTo adj (k + 1) := by
  funext u
  unfold leftTo
  by_cases e : u = k
  · subst e; rw [upd_same]; simp
  · rw [upd_other _ _ e]
    by_cases h : u < k
    · rw [if_pos h, if_pos (by omega)]
    · rw [if_neg h, if_neg (by omega)]

def zeros (adj : Nat → List Nat) (k : Nat) : List Nat := (List.range k).filter fun v => decide ((adj v).length = 0)
theorem zeros_succ (adj : Nat → List Nat) (k : Nat) : zeros adj (k + 1) = zeros adj k ++ if (adj k).length = 0 then [k] else [] := by
  unfold zeros
  rw [List.range_succ, List.filter_append]
  by_cases h : (adj k).length = 0
  · rw [if_pos h, List.filter_cons_of_pos (by simpa using h)]; simp
  · rw [if_neg h, List.filter_cons_of_neg (by simpa using h)]; simp
theorem zeros_le (adj : Nat → List Nat) (k : Nat) : (zeros adj k).length ≤ k := by
  have := List.length_filter_le (fun v => decide ((adj v).length = 0)) (List.range k)
  rw [List.length_range] at this
  exact this

/-- No vertex leads to itself, and no two to each other. -/
def Acyclic (n : Nat) (adj : Nat → List Nat) : Prop := (∀ v, v < n → v ∉ adj v) ∧ ∀ u v, u < n → v < n → u ≠ v → ¬ (Tj.Reach adj u v ∧ Tj.Reach adj v u)

def PeelRes (n : Nat) (adj : Nat → List Nat) (w : World) (e : Ending) (w' : World) : Prop := Chg (fun _ => False) w w' ∧ ∃ r, e = .returned (.bool r) ∧ (r = true ↔ Acyclic n adj)

theorem Row.shape {w : World} {base : Nat} {v : Value} {Q : List Nat} (h : w.ownsRow base 3 1 v Q.length (nums Q)) : ∃ a c, v = .slice a Q.length c := by
  rcases Row.look h with ⟨hv, hn, _⟩ | ⟨g, cap, hv, _⟩
  · exact ⟨none, 0, by rw [hv, hn]⟩
  · exact ⟨_, cap, hv⟩

theorem rows_of {w1 : World} {ar : Option Addr} {m : Nat} {adj : Nat → List Nat} (h : ∀ i xs, ((List.range m).map fun x => nums (revTo adj m x))[i]? = some xs → ∃ b o a' c', ar = some ⟨b, o, none⟩ ∧ w1.cell? ⟨b, o + i, none⟩ = some (.slice a' xs.length c') ∧ Sl w1 (.slice a' xs.length c') xs) :
    ∀ i, i < m → ∃ b o a' c', ar = some ⟨b, o, none⟩ ∧ w1.cell? ⟨b, o + i, none⟩ = some (.slice a' (revTo adj m i).length c') ∧ ∀ (j p : Nat), (revTo adj m i)[j]? = some p → ∃ b' o', a' = some ⟨b', o', none⟩ ∧ w1.cell? ⟨b', o' + j, none⟩ = some (.int .i64 p) := by
  intro i hi
  obtain ⟨b, o, a', c', e1, e2, e3⟩ := h i (nums (revTo adj m i)) (by simp [hi])
  rw [nums_length] at e2 e3
  exact ⟨b, o, a', c', e1, e2, fun j z hz => e3.at (by simp [nums, hz])⟩

set_option maxHeartbeats 4000000 in
set_option maxRecDepth 100000 in
theorem peel19 (w : World) (v0 : Value) (ds : List (List Nat)) (h : Grid w v0 (ds.map nums)) (hn : ds.length ≤ 4096) (hl : ∀ d ∈ ds, d.length ≤ 131072) (hnd : ∀ d ∈ ds, d.Nodup) (hlt : ∀ d ∈ ds, ∀ x ∈ d, x < ds.length) : Calls Try.prog 19 #[v0] w (PeelRes ds.length (adjOf ds) w) := by
  have hrev := rev18 w v0 ds h hn hl hnd hlt
  obtain ⟨a, c, rfl, q⟩ := h.shape
  rw [List.length_map] at hrev ⊢
  have HB : Hid (∀ i d, ds[i]? = some d → ∃ b o a' c', a = some ⟨b, o, none⟩ ∧ w.cell? ⟨b, o + i, none⟩ = some (.slice a' d.length c')) := fun i d hx => by
    obtain ⟨b, o, a', c', e1, e2, e3⟩ := q i (nums d) (by simp [hx])
    rw [nums_length] at e2 e3
    exact ⟨b, o, a', c', e1, e2⟩
  have HDl : Hid (∀ d ∈ ds, d.length ≤ 131072) := hl
  have HNd : Hid (∀ v, v < ds.length → (adjOf ds v).Nodup) := fun v hv => by
    rw [adjOf_at (List.getElem?_eq_getElem hv)]
    exact hnd _ (List.getElem_mem hv)
  have HLt : Hid (∀ v, v < ds.length → ∀ x ∈ adjOf ds v, x < ds.length) := fun v hv => by
    rw [adjOf_at (List.getElem?_eq_getElem hv)]
    exact hlt _ (List.getElem_mem hv)
  generalize hm : ds.length = m at *
  have HM : Hid (ds.length = m) := hm
  have HRev : Hid (∀ w', w = w' → Calls Try.prog 18 #[.slice a m c] w' (RevRes m (adjOf ds) w')) := fun w' e => by
    subst e
    exact hrev
  have mk := mkS47 m (by omega)
  clear h q hl hnd hlt hm hrev
  go_enter Try.func19, Try.ntmps19
  go_upto_block 0 with (first | (go_at_call 18; refine (HRev.out _ rfl).mono ?_; rintro e w1 ⟨vr, rfl, hg1, hc1⟩; obtain ⟨ar, cr, rfl, hgr⟩ := hg1.shape; have HG : Hid (∀ i, i < m → ∃ b o a' c', ar = some ⟨b, o, none⟩ ∧ w1.cell? ⟨b, o + i, none⟩ = some (.slice a' (revTo (adjOf ds) m i).length c') ∧ ∀ (j p : Nat), (revTo (adjOf ds) m i)[j]? = some p → ∃ b' o', a' = some ⟨b', o', none⟩ ∧ w1.cell? ⟨b', o' + j, none⟩ = some (.int .i64 p)) := rows_of hgr; have HC1 : Hid (Chg (fun _ => False) w w1) := hc1; clear hg1 hgr hc1))
  have H0 : Hid (LS m w1.heap.size w1 (w1.alloc (.cells (Array.replicate m (.int .i64 0)) 3)) (leftTo (adjOf ds) 0) (zeros (adjOf ds) 0) (.slice none 0 0)) := {
    blk := by
      have := Blk.new w1 (numRow m (leftTo (adjOf ds) 0)) 3
      have e : (numRow m (leftTo (adjOf ds) 0)) = List.replicate m (.int .i64 0) := by
        unfold numRow leftTo
        apply List.ext_getElem <;> simp
      rw [e] at this ⊢
      simpa using this
    row := ⟨rfl, .inl ⟨rfl, rfl⟩⟩
    chg := Chg.alloc _ _ _ }
  clear mk
  go_wp2
  go_loopg [6, 7] m (fun gh s t wi => ∃ (v : Nat) (aq : Option Addr) (cq : Nat), v ≤ m ∧ gh = m - v ∧ t = .int .i64 v ∧ s = .slice aq (zeros (adjOf ds) v).length cq ∧ Hid (LS m w1.heap.size w1 wi (leftTo (adjOf ds) v) (zeros (adjOf ds) v) (.slice aq (zeros (adjOf ds) v).length cq)))
  case atStart => exact ⟨0, none, 0, Nat.zero_le _, rfl, rfl, rfl, H0.out⟩
  case round =>
    obtain ⟨v, aq, cq, hv, rfl, rfl, rfl, HK⟩ := hrel
    clear H0
    by_cases hvm : v < m
    · have hvz : (v : Int) < (m : Int) := by omega
      obtain ⟨d, hd⟩ : ∃ d, ds[v]? = some d := ⟨_, List.getElem?_eq_getElem (by have := HM.out; omega)⟩
      obtain ⟨b2, o2, a', c', rfl, e2⟩ := HB.out v d hd
      have d2 : wr.cell? ⟨b2, o2 + v, none⟩ = some (.slice a' d.length c') := HK.out.chg.cell (HC1.out.cell e2 (fun h => h)) (fun h => h)
      have hdl := HDl.out d (List.mem_of_getElem? hd)
      have HD : Hid (adjOf ds v = d) := adjOf_at hd
      have d4 := HK.out.blk.cell (numRow_at (leftTo (adjOf ds) v) hvm)
      have f4 := HK.out.blk.free v
      have HS : Hid (LS m w1.heap.size w1 (wr.setCell ⟨w1.heap.size, v, none⟩ (.int .i64 d.length)) (leftTo (adjOf ds) (v + 1)) (zeros (adjOf ds) v) (.slice aq (zeros (adjOf ds) v).length cq)) := by
        have := HK.out.setL (Nat.le_refl _) v d.length
        rw [← HD.out, leftTo_succ] at this
        rw [HD.out] at this
        exact this
      have HZ : Hid (zeros (adjOf ds) (v + 1) = zeros (adjOf ds) v ++ if d.length = 0 then [v] else []) := by
        have := zeros_succ (adjOf ds) v
        rw [HD.out] at this
        exact this
      have d5 := HS.out.blk.cell (numRow_at (leftTo (adjOf ds) (v + 1)) hvm)
      have e5 : leftTo (adjOf ds) (v + 1) v = d.length := by rw [← HD.out]; simp [leftTo]
      rw [e5] at d5
      have hzl := zeros_le (adjOf ds) v
      have HZl : Hid ((zeros (adjOf ds) v).length ≤ 1048576) := by show _ ≤ _; omega
      clear hd e2 e5 hzl
      generalize d.length = l at *
      by_cases hl0 : l = 0
      · subst hl0
        go_wp2_with (first | (at_builtin; refine stopHere ?_))
        change wpList _ _ _ _ _ _
        clear d2 d4 f4 d5
        have HS0 : Hid (LS m w1.heap.size w1 (wr.setCell ⟨w1.heap.size, v, none⟩ (.int .i64 0)) (leftTo (adjOf ds) (v + 1)) (zeros (adjOf ds) v) (.slice aq (zeros (adjOf ds) v).length cq)) := HS.out
        have e6 : (wr.setCell ⟨w1.heap.size, v, none⟩ (.int .i64 0)).heap.size = wr.heap.size := by simp
        clear HS
        generalize (wr.setCell ⟨w1.heap.size, v, none⟩ (.int .i64 0)) = w3 at *
        rw [← e6]
        clear e6
        have HBase : Hid (w1.heap.size + 1 ≤ w3.heap.size) := HS0.out.blk.lt
        refine wp_push (w := w3) ?hg1 (.tmp 36) (.tmp 38) 47 ?hop1 (w1.heap.size + 1) 3 Try.underlying47 infoS3 rfl _ _ _ ?hs1 HS0.out.row (.int .i64 v) rfl w3.heap.size ?hx1 (Chg.alloc _ _ _) (cell_alloc1 _ _ _) HZl.out (by decide) HBase.out ?_
        case hg1 => rfl
        case hop1 => rfl
        case hs1 => rfl
        case hx1 => rfl
        intro g cap w4 hr4 hc4 hg4 hb4
        have HP : Hid (LS m w1.heap.size w1 w4 (leftTo (adjOf ds) (v + 1)) (zeros (adjOf ds) (v + 1)) (.slice (some ⟨g, 0, none⟩) ((zeros (adjOf ds) v).length + 1) cap)) := by
          have := HS0.out.push (Nat.le_refl _) hr4 hc4
          rw [HZ.out]
          exact this
        have HZ2 : Hid ((zeros (adjOf ds) (v + 1)).length = (zeros (adjOf ds) v).length + 1) := by
          show _ = _
          rw [HZ.out]
          simp
        clear hr4 hc4 hg4 hb4
        go_wp2
        go_roundg (m - (v + 1))
        case measure => go_light; omega
        case rel => exact ⟨v + 1, some ⟨g, 0, none⟩, cap, by omega, rfl, by go_num, by rw [HZ2.out], by rw [HZ2.out]; exact HP.out⟩
      · have hlz : ¬ (l : Int) = 0 := by omega
        have HZ2 : Hid (zeros (adjOf ds) (v + 1) = zeros (adjOf ds) v) := by
          show _ = _
          rw [HZ.out, if_neg hl0]
          simp
        go_wp2
        go_roundg (m - (v + 1))
        case measure => go_light; omega
        case rel => exact ⟨v + 1, aq, cq, by omega, rfl, by go_num, by rw [HZ2.out], by rw [HZ2.out]; exact HS.out⟩
    · have e : v = m := by omega
      subst e
      have HP0 : Hid (Peel v (adjOf ds) (leftTo (adjOf ds) v) (zeros (adjOf ds) v) 0 0) := Peel.start v (adjOf ds) _ (fun u hu => by simp [leftTo, hu])
      go_wp2
      go_loopg [6, 8] v (fun gh s t wi => ∃ (i : Nat) (L : Nat → Nat) (Q : List Nat) (aq : Option Addr) (cq : Nat), i ≤ v ∧ gh = v - i ∧ t = .int .i64 i ∧ s = .slice aq Q.length cq ∧ Hid (LS v w1.heap.size w1 wi L Q (.slice aq Q.length cq) ∧ Peel v (adjOf ds) L Q i 0))
      case atStart => exact ⟨0, _, _, aq, cq, Nat.zero_le _, rfl, rfl, rfl, HK.out, HP0.out⟩
      case round =>
        obtain ⟨i, L, Q, aq, cq, hi, rfl, rfl, rfl, HQ⟩ := hrel
        clear HK HP0
        have hQl := nodup_le v Q HQ.out.2.nodup HQ.out.2.lt
        have hile := HQ.out.2.ile
        by_cases hiQ : i < Q.length
        · have hiz : (i : Int) < (Q.length : Int) := by omega
          obtain ⟨x, hx⟩ : ∃ x, Q[i]? = some x := ⟨_, List.getElem?_eq_getElem hiQ⟩
          have hxv := HQ.out.2.lt x (List.mem_of_getElem? hx)
          have hxz : (x : Int) < (v : Int) := by omega
          have HX : Hid (Q.getD i 0 = x) := by
            show _ = _
            rw [List.getD_eq_getElem?_getD, hx]
            rfl
          obtain ⟨bq, oq, rfl, d1⟩ := (Row.sl0 HQ.out.1.row).sl.at (i := i) (x := .int .i64 x) (by simp [nums, hx])
          obtain ⟨b3, o3, a3, c3, rfl, e3, e4⟩ := HG.out x hxv
          have HE3 : Hid (w1.cell? ⟨b3, o3 + x, none⟩ = some (.slice a3 (revTo (adjOf ds) v x).length c3)) := e3
          have HE4 : Hid (∀ (j p : Nat), (revTo (adjOf ds) v x)[j]? = some p → ∃ b' o', a3 = some ⟨b', o', none⟩ ∧ w1.cell? ⟨b', o' + j, none⟩ = some (.int .i64 p)) := e4
          have hrl : (revTo (adjOf ds) v x).length ≤ 4096 := by
            have := revAt_le (adjOf ds) v 0 x
            have e : revAt (adjOf ds) v 0 x = revTo (adjOf ds) v x := by simp [revAt]
            have h2 : (revTo (adjOf ds) v x).length ≤ v := by
              unfold revTo
              have := List.length_filter_le (fun u => (adjOf ds u).contains x) (List.range v)
              rw [List.length_range] at this
              exact this
            omega
          have HQ2 : Hid (LS v w1.heap.size w1 wr L Q (.slice (some ⟨bq, oq, none⟩) Q.length cq) ∧ Peel v (adjOf ds) L Q i 0 ∧ Q.getD i 0 = x ∧ i < Q.length) := ⟨HQ.out.1, HQ.out.2, HX.out, hiQ⟩
          have HI : Hid (i < Q.length) := hiQ
          clear hx e3 e4
          generalize hrr : (revTo (adjOf ds) v x).length = rl at *
          have HRl : Hid ((revTo (adjOf ds) v x).length = rl) := hrr
          clear hrr
          have d5 : wr.cell? ⟨b3, o3 + x, none⟩ = some (.slice a3 rl c3) := HQ.out.1.chg.cell HE3.out (fun h => h)
          go_wp2
          go_loopg [6, 10] rl (fun gh s t wi => ∃ (j : Nat) (L : Nat → Nat) (Q : List Nat) (aq : Option Addr) (cq : Nat), j ≤ rl ∧ gh = rl - j ∧ t = .int .i64 j ∧ s = .slice aq Q.length cq ∧ Hid (LS v w1.heap.size w1 wi L Q (.slice aq Q.length cq) ∧ Peel v (adjOf ds) L Q i j ∧ Q.getD i 0 = x ∧ i < Q.length))
          case atStart => exact ⟨0, L, Q, some ⟨bq, oq, none⟩, cq, Nat.zero_le _, rfl, rfl, rfl, HQ2.out⟩
          case round =>
            obtain ⟨j, L, Q, aq, cq, hj, rfl, rfl, rfl, HJ⟩ := hrel
            clear HQ HQ2 d1 d5 hiz hiQ hQl HI HX
            have hQl := nodup_le v Q HJ.out.2.1.nodup HJ.out.2.1.lt
            have d5 : wr.cell? ⟨b3, o3 + x, none⟩ = some (.slice a3 rl c3) := HJ.out.1.chg.cell HE3.out (fun h => h)
            by_cases hjl : j < rl
            · have hjz : (j : Int) < (rl : Int) := by omega
              obtain ⟨p, hp, hpn, hL1, hL2, hpQ⟩ := HJ.out.2.1.at HJ.out.2.2.2 HNd.out (by rw [HJ.out.2.2.1, HRl.out]; exact hjl)
              have HPs : Hid ((revTo (adjOf ds) v (Q.getD i 0))[j]? = some p) := hp
              rw [HJ.out.2.2.1] at hp
              obtain ⟨b4, o4, rfl, e6⟩ := HE4.out j p hp
              have d6 : wr.cell? ⟨b4, o4 + j, none⟩ = some (.int .i64 p) := HJ.out.1.chg.cell e6 (fun h => h)
              have hpz : (p : Int) < (v : Int) := by omega
              have d7 := HJ.out.1.blk.cell (numRow_at L hpn)
              have f7 := HJ.out.1.blk.free p
              have hKb : L p - 1 ≤ 131072 := by
                rw [hL2]
                have h1 : lft (adjOf ds) (Q.take (i + 1)) p ≤ (adjOf ds p).length := by
                  unfold lft
                  exact List.length_filter_le _ _
                have h2 : (adjOf ds p).length ≤ 131072 := by
                  have hpl : p < ds.length := by have := HM.out; omega
                  rw [adjOf_at (List.getElem?_eq_getElem hpl)]
                  exact HDl.out _ (List.getElem_mem hpl)
                omega
              obtain ⟨K, hK⟩ : ∃ K, L p = K + 1 := ⟨L p - 1, by omega⟩
              have hKb' : K ≤ 131072 := by omega
              rw [hK] at d7
              have d7' : wr.cell? ⟨w1.heap.size, p, none⟩ = some (.int .i64 ((K : Int) + 1)) := d7
              have HS : Hid (LS v w1.heap.size w1 (wr.setCell ⟨w1.heap.size, p, none⟩ (.int .i64 (K : Int))) (upd L p K) Q (.slice aq Q.length cq)) := HJ.out.1.setL (Nat.le_refl _) p K
              have HSt : Hid (∀ Q', Q' = (if K = 0 then Q ++ [p] else Q) → Peel v (adjOf ds) (upd L p K) Q' i (j + 1)) := fun Q' hQ' => by
                have := HJ.out.2.1.step HJ.out.2.2.2 HNd.out HPs.out Q' (by rw [hQ', hK]; rfl)
                rw [hK] at this
                exact this
              have HI2 : Hid (i < Q.length ∧ Q.getD i 0 = x) := ⟨HJ.out.2.2.2, HJ.out.2.2.1⟩
              have d8 := HS.out.blk.cell (numRow_at (upd L p K) hpn)
              rw [upd_same] at d8
              clear hp hL1 hL2 hpQ e6 hK hKb d7
              by_cases hK0 : K = 0
              · subst hK0
                go_wp2_with (first | (at_builtin; refine stopHere ?_))
                change wpList _ _ _ _ _ _
                clear d5 d6 d7' f7 d8
                have HS0 : Hid (LS v w1.heap.size w1 (wr.setCell ⟨w1.heap.size, p, none⟩ (.int .i64 0)) (upd L p 0) Q (.slice aq Q.length cq)) := HS.out
                have e6 : (wr.setCell ⟨w1.heap.size, p, none⟩ (.int .i64 0)).heap.size = wr.heap.size := by simp
                clear HS
                generalize (wr.setCell ⟨w1.heap.size, p, none⟩ (.int .i64 0)) = w3 at *
                rw [← e6]
                clear e6
                have HBase : Hid (w1.heap.size + 1 ≤ w3.heap.size) := HS0.out.blk.lt
                refine wp_push (w := w3) ?hg1 (.tmp 77) (.tmp 79) 47 ?hop1 (w1.heap.size + 1) 3 Try.underlying47 infoS3 rfl _ _ _ ?hs1 HS0.out.row (.int .i64 p) rfl w3.heap.size ?hx1 (Chg.alloc _ _ _) (cell_alloc1 _ _ _) (by omega) (by decide) HBase.out ?_
                case hg1 => rfl
                case hop1 => rfl
                case hs1 => rfl
                case hx1 => rfl
                intro g cap w4 hr4 hc4 hg4 hb4
                have HP : Hid (LS v w1.heap.size w1 w4 (upd L p 0) (Q ++ [p]) (.slice (some ⟨g, 0, none⟩) (Q.length + 1) cap)) := HS0.out.push (Nat.le_refl _) hr4 hc4
                have HPP : Hid (Peel v (adjOf ds) (upd L p 0) (Q ++ [p]) i (j + 1)) := HSt.out _ (by simp)
                clear hr4 hc4 hg4 hb4
                go_wp2
                go_roundg (rl - (j + 1))
                case measure => go_light; omega
                case rel => exact ⟨j + 1, upd L p 0, Q ++ [p], some ⟨g, 0, none⟩, cap, by omega, rfl, by go_num, by simp, by simpa using HP.out, HPP.out, by
                  rw [← HI2.out.2, List.getD_eq_getElem?_getD, List.getElem?_append_left HI2.out.1, ← List.getD_eq_getElem?_getD], by have := HI2.out.1; simp; omega⟩
              · have hKz : ¬ (K : Int) = 0 := by omega
                have HPP : Hid (Peel v (adjOf ds) (upd L p K) Q i (j + 1)) := HSt.out _ (by rw [if_neg hK0])
                go_wp2
                go_roundg (rl - (j + 1))
                case measure => go_light; omega
                case rel => exact ⟨j + 1, upd L p K, Q, aq, cq, by omega, rfl, by go_num, rfl, HS.out, HPP.out, HI2.out.2, HI2.out.1⟩
            · have e : j = rl := by omega
              subst e
              have HPP : Hid (Peel v (adjOf ds) L Q (i + 1) 0) := HJ.out.2.1.next HJ.out.2.2.2 HNd.out (by rw [HJ.out.2.2.1, HRl.out])
              have hi1 : i < v := by have := HJ.out.2.2.2; omega
              go_wp2
              go_roundg (v - (i + 1))
              case measure => go_light; omega
              case rel => exact ⟨i + 1, L, Q, aq, cq, by omega, rfl, by go_num, rfl, HJ.out.1, HPP.out⟩
        · have e : i = Q.length := by omega
          have HEnd : Hid (Q.length = v ↔ Acyclic v (adjOf ds)) := by
            have h := HQ.out.2
            rw [e] at h
            exact h.law HLt.out
          have hiz : ¬ (i : Int) < (Q.length : Int) := by omega
          have HCh : Hid (Chg (fun _ => False) w wr) := HC1.out.trans HQ.out.1.chg (fun _ h => h.elim)
          by_cases hQv : Q.length = v
          · have hqz : (Q.length : Int) = (v : Int) := by omega
            clear e
            go_wp2
            go_ret
            exact ⟨HCh.out, true, rfl, fun _ => HEnd.out.1 hQv, fun _ => rfl⟩
          · have hqz : ¬ (Q.length : Int) = (v : Int) := by omega
            clear e
            go_wp2
            go_ret
            exact ⟨HCh.out, ((Q.length : Int) == (v : Int)), rfl, fun h => absurd (eq_of_beq h) hqz, fun h => absurd (HEnd.out.2 h) hQv⟩
end Go.Proofs.Qxb6616078a
