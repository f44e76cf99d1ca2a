/- hasEdge, reachOf, reachAll. -/
import Derived.Test.Qxb6616078aPeelW
import Derived.Test.Qxb6616078aModel
import Derived.Test.Qxb6616078aComp
namespace Go.Proofs.Qxb6616078a
open Go.RowKit Tj

/-- The rows of a grid of numbers. -/
theorem grid_rows {w : World} {a : Option Addr} {n c : Nat} {ds : List (List Nat)} (h : Grid w (.slice a n c) (ds.map nums)) : ∀ i d, ds[i]? = some d → ∃ b o a' c', a = some ⟨b, o, none⟩ ∧ w.cell? ⟨b, o + i, none⟩ = some (.slice a' d.length c') ∧ ∀ (j x : Nat), d[j]? = some x → ∃ b' o', a' = some ⟨b', o', none⟩ ∧ w.cell? ⟨b', o' + j, none⟩ = some (.int .i64 x) := fun i d hx => by
  obtain ⟨a1, c1, e0, q⟩ := h.shape
  cases e0
  obtain ⟨b, o, a', c', e1, e2, e3⟩ := q i (nums d) (by simp [hx])
  rw [nums_length] at e2 e3
  exact ⟨b, o, a', c', e1, e2, fun j z hz => e3.at (by simp [nums, hz])⟩

set_option maxHeartbeats 1000000 in
set_option maxRecDepth 100000 in
theorem edge36 (w : World) (a : Option Addr) (m c : Nat) (ds : List (List Nat)) (h : Grid w (.slice a m c) (ds.map nums)) (hm : ds.length = m) (hl : ∀ d ∈ ds, d.length ≤ 131072) (v x : Nat) (hv : v < m) : Calls Try.prog 36 #[.slice a m c, .int .i64 v, .int .i64 x] w fun e w' => e = .returned (.bool ((adjOf ds v).contains x)) ∧ w' = w := by
  obtain ⟨d, hd⟩ : ∃ d, ds[v]? = some d := ⟨_, List.getElem?_eq_getElem (by omega)⟩
  obtain ⟨b2, o2, a', c', rfl, d2, e3⟩ := grid_rows h v d hd
  rw [adjOf_at hd]
  have hdl := hl d (List.mem_of_getElem? hd)
  have hvz : (v : Int) < (m : Int) := by omega
  have HE3 : Hid (∀ (j x : Nat), d[j]? = some x → ∃ b' o', a' = some ⟨b', o', none⟩ ∧ w.cell? ⟨b', o' + j, none⟩ = some (.int .i64 x)) := e3
  have HRes : Hid (∀ r : Bool, (r = true ↔ x ∈ d) → d.contains x = r) := fun r hr => by
    rw [Bool.eq_iff_iff, hr]
    simp
  generalize d.contains x = R at *
  generalize hdd : d.length = l at *
  have HDD : Hid (d.length = l) := hdd
  clear h hd e3 hdd hl hm
  go_enter Try.func36, Try.ntmps36
  go_wp2
  go_loopg [7] l (fun gh s wi => ∃ (j : Nat), j ≤ l ∧ gh = l - j ∧ s = .int .i64 j ∧ Hid (wi = w ∧ x ∉ d.take j))
  case atStart => exact ⟨0, Nat.zero_le _, rfl, rfl, rfl, by simp⟩
  case round =>
    obtain ⟨j, hj, rfl, rfl, HJ⟩ := hrel
    have hW := HJ.out.1
    subst hW
    by_cases hjl : j < l
    · have hjz : (j : Int) < (l : Int) := by omega
      obtain ⟨y, hy⟩ : ∃ y, d[j]? = some y := ⟨_, List.getElem?_eq_getElem (by have := HDD.out; omega)⟩
      obtain ⟨b3, o3, rfl, d3⟩ := HE3.out j y hy
      by_cases hxy : y = x
      · have hr : R = true := HRes.out true ⟨fun _ => by rw [← hxy]; exact List.mem_of_getElem? hy, fun _ => rfl⟩
        subst hr
        have hz : (y : Int) = (x : Int) := by omega
        clear hy hxy
        go_wp2
        go_ret
        exact ⟨rfl, rfl⟩
      · have hz : ¬ (y : Int) = (x : Int) := by omega
        have HN : Hid (x ∉ d.take (j + 1)) := fun hm => by
          rw [List.take_add_one, hy] at hm
          rcases List.mem_append.1 hm with hm | hm
          · exact HJ.out.2 hm
          · simp at hm
            exact hxy hm.symm
        clear hy hxy
        go_wp2
        go_roundg (l - (j + 1))
        case measure => go_light; omega
        case rel => exact ⟨j + 1, by omega, rfl, by go_num, rfl, HN.out⟩
    · have hr : R = false := HRes.out false ⟨fun h => (by cases h), fun h => by
        have h1 := HJ.out.2
        rw [List.take_of_length_le (by have := HDD.out; omega)] at h1
        exact absurd h h1⟩
      subst hr
      have hjz : ¬ (j : Int) < (l : Int) := by omega
      go_wp2
      go_ret
      exact ⟨rfl, rfl⟩

/-- The search in breadth: 'first' of s's edges, and of the queue's i first vertices all edges, of the next j. -/
structure BQ (n : Nat) (adj : Nat → List Nat) (s : Nat) (Q : List Nat) (first i j : Nat) : Prop where
  b : Bfs n adj s Q
  c1 : ∀ x ∈ (adj s).take first, x ∈ Q
  c2 : ∀ k, k < i → ∀ x ∈ adj (Q.getD k 0), x ∈ Q
  c3 : ∀ x ∈ (adj (Q.getD i 0)).take j, x ∈ Q
  ile : i ≤ Q.length
  j0 : i = Q.length → j = 0

section
variable {n : Nat} {adj : Nat → List Nat} {s : Nat} {Q : List Nat} {first i j : Nat}

theorem BQ.start : BQ n adj s [] 0 0 0 := ⟨Bfs.nil _ _ _, by simp, fun k h => absurd h (Nat.not_lt_zero _), by simp, Nat.le_refl _, fun _ => rfl⟩

theorem getD_snoc {Q : List Nat} {k x : Nat} (hk : k < Q.length) : (Q ++ [x]).getD k 0 = Q.getD k 0 := by
  rw [List.getD_eq_getElem?_getD, List.getElem?_append_left hk, ← List.getD_eq_getElem?_getD]

/-- One more vertex in the queue. -/
theorem BQ.grow (h : BQ n adj s Q first i j) {x : Nat} (hb : Bfs n adj s (Q ++ [x])) : BQ n adj s (Q ++ [x]) first i j where
  b := hb
  c1 y hy := List.mem_append_left _ (h.c1 y hy)
  c2 k hk y hy := by
    rw [getD_snoc (by have := h.ile; omega)] at hy
    exact List.mem_append_left _ (h.c2 k hk y hy)
  c3 y hy := by
    by_cases hi : i < Q.length
    · rw [getD_snoc hi] at hy
      exact List.mem_append_left _ (h.c3 y hy)
    · have : j = 0 := h.j0 (by have := h.ile; omega)
      subst this
      simp at hy
  ile := by have := h.ile; simp; omega
  j0 e := by simp at e; have := h.ile; omega

theorem BQ.one (h : BQ n adj s Q first i j) {x : Nat} (hx : (adj s)[first]? = some x) (hq : x ∈ Q) : BQ n adj s Q (first + 1) i j :=
  ⟨h.b, fun y hy => by
    rw [List.take_add_one, hx] at hy
    rcases List.mem_append.1 hy with hy | hy
    · exact h.c1 y hy
    · simp at hy; exact hy ▸ hq, h.c2, h.c3, h.ile, h.j0⟩

theorem BQ.two (h : BQ n adj s Q first i j) (hi : i < Q.length) {x : Nat} (hx : (adj (Q.getD i 0))[j]? = some x) (hq : x ∈ Q) : BQ n adj s Q first i (j + 1) :=
  ⟨h.b, h.c1, h.c2, fun y hy => by
    rw [List.take_add_one, hx] at hy
    rcases List.mem_append.1 hy with hy | hy
    · exact h.c3 y hy
    · simp at hy; exact hy ▸ hq, h.ile, fun e => by omega⟩

theorem BQ.next (h : BQ n adj s Q first i j) (hi : i < Q.length) (hj : j = (adj (Q.getD i 0)).length) : BQ n adj s Q first (i + 1) 0 :=
  ⟨h.b, h.c1, fun k hk y hy => by
    by_cases e : k = i
    · subst e
      have := h.c3 y
      rw [hj, List.take_length] at this
      exact this hy
    · exact h.c2 k (by omega) y hy, by simp, by omega, fun _ => rfl⟩

theorem BQ.law (h : BQ n adj s Q (adj s).length Q.length 0) (w : Nat) : w ∈ Q ↔ From adj s w := by
  refine h.b.law (fun x hx => h.c1 x (by rw [List.take_length]; exact hx)) (fun u hu x hx => ?_) w
  obtain ⟨k, hk, e⟩ := List.getElem_of_mem hu
  refine h.c2 k hk x ?_
  rw [List.getD_eq_getElem?_getD, List.getElem?_eq_getElem hk]
  rw [e]
  exact hx
end

/-- seen's row and the queue. -/
structure BS (n B : Nat) (w wr : World) (f : Nat → Bool) (Q : List Nat) (vq : Value) : Prop where
  blk : Blk wr B (boolRow n f) 4
  row : wr.ownsRow (B + 1) 3 1 vq Q.length (nums Q)
  seen : ∀ x, x < n → (f x = true ↔ x ∈ Q)
  chg : Chg (fun _ => False) w wr

/-- seen[x] = true, then queue = append(queue, x). -/
theorem BS.push {n B : Nat} {w wr : World} {f : Nat → Bool} {Q : List Nat} {vq : Value} (h : BS n B w wr f Q vq) (hB : w.heap.size ≤ B) {x : Nat} {w4 : World} {v' : Value}
    (hr : w4.ownsRow (B + 1) 3 1 v' (Q.length + 1) (nums Q ++ [.int .i64 x])) (hc : Chg (fun k => vq.ownBlock = some k) (wr.setCell ⟨B, x, none⟩ (.bool true)) w4) : BS n B w w4 (updB f x true) (Q ++ [x]) v' where
  blk := by
    have h1 := h.blk.set x (.bool true)
    rw [boolRow_set] at h1
    exact h1.chg hc (fun e => by have := (own_ge' h.row e).1; omega)
  row := by
    have e : nums (Q ++ [x]) = nums Q ++ [.int .i64 x] := by simp [nums]
    rw [e, List.length_append]
    exact hr
  seen y hy := by
    unfold updB
    by_cases e : y = x
    · subst e; simp
    · simp [e, h.seen y hy]
  chg := (h.chg.trans (Chg.setCell wr ⟨B, x, none⟩ _) (fun b hb => .inr (by have e : b = B := hb; omega))).trans hc (fun b hb => .inr (by have := (own_ge' h.row hb).1; omega))

theorem BS.rowSet {n B : Nat} {w wr : World} {f : Nat → Bool} {Q : List Nat} {vq : Value} (h : BS n B w wr f Q vq) (x : Nat) : (wr.setCell ⟨B, x, none⟩ (.bool true)).ownsRow (B + 1) 3 1 vq Q.length (nums Q) :=
  Row.chg h.row (Chg.setCell wr ⟨B, x, none⟩ _) (fun b hb hf => by
    have := (own_ge' h.row hb).1
    have e : b = B := hf
    omega)

def ReachRes (n : Nat) (adj : Nat → List Nat) (s : Nat) (w : World) (e : Ending) (w' : World) : Prop := ∃ g f, e = .returned (.slice (some ⟨g, 0, none⟩) n n) ∧ Blk w' g (boolRow n f) 4 ∧ (∀ x, x < n → (f x = true ↔ From adj s x)) ∧ w.heap.size ≤ g ∧ Chg (fun _ => False) w w'

set_option maxHeartbeats 4000000 in
set_option maxRecDepth 100000 in
theorem reach48 (w : World) (a : Option Addr) (m c : Nat) (ds : List (List Nat)) (h : Grid w (.slice a m c) (ds.map nums)) (hm : ds.length = m) (hm4 : m ≤ 4096) (hl : ∀ d ∈ ds, d.length ≤ 131072) (hlt : ∀ d ∈ ds, ∀ x ∈ d, x < m) (s : Nat) (hs : s < m) : Calls Try.prog 48 #[.slice a m c, .int .i64 s] w (ReachRes m (adjOf ds) s w) := by
  have HB : Hid (∀ i d, ds[i]? = some d → ∃ b o a' c', a = some ⟨b, o, none⟩ ∧ w.cell? ⟨b, o + i, none⟩ = some (.slice a' d.length c') ∧ ∀ (j x : Nat), d[j]? = some x → ∃ b' o', a' = some ⟨b', o', none⟩ ∧ w.cell? ⟨b', o' + j, none⟩ = some (.int .i64 x)) := grid_rows h
  have HDl : Hid (∀ d ∈ ds, d.length ≤ 131072) := hl
  have HLt : Hid (∀ d ∈ ds, ∀ x ∈ d, x < m) := hlt
  have HM : Hid (ds.length = m) := hm
  have mk := make37 m (by omega)
  have hsz : (s : Int) < (m : Int) := by omega
  have H0 : Hid (BS m w.heap.size w (w.alloc (.cells (boolRow m fun _ => false).toArray 4)) (fun _ => false) [] (.slice none 0 0)) := ⟨Blk.new w _ 4, ⟨rfl, .inl ⟨rfl, rfl⟩⟩, by simp, Chg.alloc _ _ _⟩
  obtain ⟨d, hd⟩ : ∃ d, ds[s]? = some d := ⟨_, List.getElem?_eq_getElem (by omega)⟩
  obtain ⟨b2, o2, a', c', rfl, e2, e3⟩ := HB.out s d hd
  have HD : Hid (adjOf ds s = d) := adjOf_at hd
  have HDx : Hid (∀ x ∈ d, x < m) := hlt d (List.mem_of_getElem? hd)
  have hdl := hl d (List.mem_of_getElem? hd)
  have HE2 : Hid (w.cell? ⟨b2, o2 + s, none⟩ = some (.slice a' d.length c')) := e2
  have HE3 : Hid (∀ (j x : Nat), d[j]? = some x → ∃ b' o', a' = some ⟨b', o', none⟩ ∧ w.cell? ⟨b', o' + j, none⟩ = some (.int .i64 x)) := e3
  generalize hdd : d.length = l at *
  have HDD : Hid (d.length = l) := hdd
  clear h hm hl hlt hd e2 e3 hdd
  generalize (boolRow m fun _ => false) = R0 at *
  go_enter Try.func48, Try.ntmps48
  go_wp2
  go_loopg [6, 7] l (fun gh s1 t wi => ∃ (j : Nat) (f : Nat → Bool) (Q : List Nat) (aq : Option Addr) (cq : Nat), j ≤ l ∧ gh = l - j ∧ t = .int .i64 j ∧ s1 = .slice aq Q.length cq ∧ Hid (BS m w.heap.size w wi f Q (.slice aq Q.length cq) ∧ BQ m (adjOf ds) s Q j 0 0))
  case atStart => exact ⟨0, _, [], none, 0, Nat.zero_le _, rfl, rfl, rfl, H0.out, BQ.start⟩
  case round =>
    obtain ⟨j, f, Q, aq, cq, hj, rfl, rfl, rfl, HK⟩ := hrel
    clear H0
    have d2 : wr.cell? ⟨b2, o2 + s, none⟩ = some (.slice a' l c') := HK.out.1.chg.cell HE2.out (fun h => h)
    have hQl := nodup_le m Q HK.out.2.b.nodup HK.out.2.b.lt
    by_cases hjl : j < l
    · have hjz : (j : Int) < (l : Int) := by omega
      obtain ⟨x, hx⟩ : ∃ x, d[j]? = some x := ⟨_, List.getElem?_eq_getElem (by have := HDD.out; omega)⟩
      obtain ⟨b3, o3, rfl, e4⟩ := HE3.out j x hx
      have d3 : wr.cell? ⟨b3, o3 + j, none⟩ = some (.int .i64 x) := HK.out.1.chg.cell e4 (fun h => h)
      have hxm := HDx.out x (List.mem_of_getElem? hx)
      have hxz : (x : Int) < (m : Int) := by omega
      have d4 := HK.out.1.blk.cell (boolRow_at f hxm)
      have f4 := HK.out.1.blk.free x
      have HX : Hid ((adjOf ds s)[j]? = some x) := by rw [HD.out]; exact hx
      clear hx e4
      cases hfx : f x
      · rw [hfx] at d4
        have hnq : x ∉ Q := fun hq => by
          have := (HK.out.1.seen x hxm).2 hq
          rw [hfx] at this
          cases this
        have HBf : Hid (BQ m (adjOf ds) s (Q ++ [x]) (j + 1) 0 0) := by
          have hb := HK.out.2.b.first (List.mem_of_getElem? HX.out) hxm hnq
          exact (HK.out.2.grow hb).one HX.out (by simp)
        have HRow := HK.out.1.rowSet x
        have HRow : Hid ((wr.setCell ⟨w.heap.size, x, none⟩ (.bool true)).ownsRow (w.heap.size + 1) 3 1 (.slice aq Q.length cq) Q.length (nums Q)) := HRow
        have HBase : Hid (w.heap.size + 1 ≤ wr.heap.size) := HK.out.1.blk.lt
        clear hfx hnq
        go_wp2_with (first | (at_builtin; refine stopHere ?_))
        change wpList _ _ _ _ _ _
        clear d2 d3 d4 f4
        have HPush : Hid (∀ w4 v', w4.ownsRow (w.heap.size + 1) 3 1 v' (Q.length + 1) (nums Q ++ [.int .i64 x]) → Chg (fun k => (Value.slice aq Q.length cq).ownBlock = some k) (wr.setCell ⟨w.heap.size, x, none⟩ (.bool true)) w4 → BS m w.heap.size w w4 (updB f x true) (Q ++ [x]) v') := fun w4 v' h1 h2 => HK.out.1.push (Nat.le_refl _) h1 h2
        have e6 : (wr.setCell ⟨w.heap.size, x, none⟩ (.bool true)).heap.size = wr.heap.size := by simp
        generalize (wr.setCell ⟨w.heap.size, x, none⟩ (.bool true)) = w3 at *
        rw [← e6]
        rw [← e6] at HBase
        clear e6
        refine wp_push (w := w3) ?hg1 (.tmp 40) (.tmp 42) 47 ?hop1 (w.heap.size + 1) 3 Try.underlying47 infoS3 rfl _ _ _ ?hs1 HRow.out (.int .i64 x) rfl w3.heap.size ?hx1 (Chg.alloc _ _ _) (cell_alloc1 _ _ _) (by omega) (by decide) HBase.out ?_
        case hg1 => rfl
        case hop1 => rfl
        case hs1 => rfl
        case hx1 => rfl
        intro g cap w4 hr4 hc4 hg4 hb4
        have HP : Hid (BS m w.heap.size w w4 (updB f x true) (Q ++ [x]) (.slice (some ⟨g, 0, none⟩) (Q.length + 1) cap)) := HPush.out w4 _ hr4 hc4
        clear hr4 hc4 hg4 hb4 HRow HPush
        go_wp2
        go_roundg (l - (j + 1))
        case measure => go_light; omega
        case rel => exact ⟨j + 1, _, Q ++ [x], some ⟨g, 0, none⟩, cap, by omega, rfl, by go_num, by simp, by simpa using HP.out, HBf.out⟩
      · rw [hfx] at d4
        have HBf : Hid (BQ m (adjOf ds) s Q (j + 1) 0 0) := HK.out.2.one HX.out ((HK.out.1.seen x hxm).1 hfx)
        clear hfx
        go_wp2
        go_roundg (l - (j + 1))
        case measure => go_light; omega
        case rel => exact ⟨j + 1, f, Q, aq, cq, by omega, rfl, by go_num, rfl, HK.out.1, HBf.out⟩
    · have e : j = l := by omega
      subst e
      have HQ0 : Hid (BS m w.heap.size w wr f Q (.slice aq Q.length cq) ∧ BQ m (adjOf ds) s Q (adjOf ds s).length 0 0) := ⟨HK.out.1, by rw [HD.out, HDD.out]; exact HK.out.2⟩
      clear HE2 HE3 HD HDx HDD HK
      go_wp2
      go_loopg [6, 9] m (fun gh s1 t wi => ∃ (i : Nat) (f : Nat → Bool) (Q : List Nat) (aq : Option Addr) (cq : Nat), i ≤ m ∧ gh = m - i ∧ t = .int .i64 i ∧ s1 = .slice aq Q.length cq ∧ Hid (BS m w.heap.size w wi f Q (.slice aq Q.length cq) ∧ BQ m (adjOf ds) s Q (adjOf ds s).length i 0))
      case atStart => exact ⟨0, f, Q, aq, cq, Nat.zero_le _, rfl, rfl, rfl, HQ0.out⟩
      case round =>
        obtain ⟨i, f, Q, aq, cq, hi, rfl, rfl, rfl, HQ⟩ := hrel
        clear HQ0 hQl d2
        have hQl := nodup_le m Q HQ.out.2.b.nodup HQ.out.2.b.lt
        have hile := HQ.out.2.ile
        by_cases hiQ : i < Q.length
        · have hiz : (i : Int) < (Q.length : Int) := by omega
          obtain ⟨u, hu⟩ : ∃ u, Q[i]? = some u := ⟨_, List.getElem?_eq_getElem hiQ⟩
          have hum := HQ.out.2.b.lt u (List.mem_of_getElem? hu)
          have huz : (u : Int) < (m : Int) := by omega
          have HU : Hid (Q.getD i 0 = u) := by
            show _ = _
            rw [List.getD_eq_getElem?_getD, hu]
            rfl
          obtain ⟨bq, oq, rfl, d1⟩ := (Row.sl0 HQ.out.1.row).sl.at (i := i) (x := .int .i64 u) (by simp [nums, hu])
          obtain ⟨d', hd'⟩ : ∃ d', ds[u]? = some d' := ⟨_, List.getElem?_eq_getElem (by have := HM.out; omega)⟩
          obtain ⟨b5, o5, a5, c5, eb, e5, e6⟩ := HB.out u d' hd'
          cases eb
          have HD : Hid (adjOf ds u = d') := adjOf_at hd'
          have HDx : Hid (∀ x ∈ d', x < m) := HLt.out d' (List.mem_of_getElem? hd')
          have hdl' := HDl.out d' (List.mem_of_getElem? hd')
          have HE2 : Hid (w.cell? ⟨b2, o2 + u, none⟩ = some (.slice a5 d'.length c5)) := e5
          have HE3 : Hid (∀ (j x : Nat), d'[j]? = some x → ∃ b' o', a5 = some ⟨b', o', none⟩ ∧ w.cell? ⟨b', o' + j, none⟩ = some (.int .i64 x)) := e6
          generalize hdd : d'.length = l2 at *
          have HDD : Hid (d'.length = l2) := hdd
          have HQ2 : Hid (BS m w.heap.size w wr f Q (.slice (some ⟨bq, oq, none⟩) Q.length cq) ∧ BQ m (adjOf ds) s Q (adjOf ds s).length i 0 ∧ Q.getD i 0 = u ∧ i < Q.length) := ⟨HQ.out.1, HQ.out.2, HU.out, hiQ⟩
          clear hu hd' e5 e6 hdd
          have d2 : wr.cell? ⟨b2, o2 + u, none⟩ = some (.slice a5 l2 c5) := HQ.out.1.chg.cell HE2.out (fun h => h)
          go_wp2
          go_loopg [6, 11] l2 (fun gh s1 t wi => ∃ (j : Nat) (f : Nat → Bool) (Q : List Nat) (aq : Option Addr) (cq : Nat), j ≤ l2 ∧ gh = l2 - j ∧ t = .int .i64 j ∧ s1 = .slice aq Q.length cq ∧ Hid (BS m w.heap.size w wi f Q (.slice aq Q.length cq) ∧ BQ m (adjOf ds) s Q (adjOf ds s).length i j ∧ Q.getD i 0 = u ∧ i < Q.length))
          case atStart => exact ⟨0, f, Q, some ⟨bq, oq, none⟩, cq, Nat.zero_le _, rfl, rfl, rfl, HQ2.out⟩
          case round =>
            obtain ⟨j, f, Q, aq, cq, hj, rfl, rfl, rfl, HK⟩ := hrel
            clear HQ HQ2 d1 d2 hiz hiQ hQl hile HU
            have hQl := nodup_le m Q HK.out.2.1.b.nodup HK.out.2.1.b.lt
            have d2 : wr.cell? ⟨b2, o2 + u, none⟩ = some (.slice a5 l2 c5) := HK.out.1.chg.cell HE2.out (fun h => h)
            by_cases hjl : j < l2
            · have hjz : (j : Int) < (l2 : Int) := by omega
              obtain ⟨x, hx⟩ : ∃ x, d'[j]? = some x := ⟨_, List.getElem?_eq_getElem (by have := HDD.out; omega)⟩
              obtain ⟨b3, o3, rfl, e4⟩ := HE3.out j x hx
              have d3 : wr.cell? ⟨b3, o3 + j, none⟩ = some (.int .i64 x) := HK.out.1.chg.cell e4 (fun h => h)
              have hxm := HDx.out x (List.mem_of_getElem? hx)
              have hxz : (x : Int) < (m : Int) := by omega
              have d4 := HK.out.1.blk.cell (boolRow_at f hxm)
              have f4 := HK.out.1.blk.free x
              have HX : Hid ((adjOf ds (Q.getD i 0))[j]? = some x) := by rw [HK.out.2.2.1, HD.out]; exact hx
              clear hx e4
              cases hfx : f x
              · rw [hfx] at d4
                have hnq : x ∉ Q := fun hq => by
                  have := (HK.out.1.seen x hxm).2 hq
                  rw [hfx] at this
                  cases this
                have HBf : Hid (BQ m (adjOf ds) s (Q ++ [x]) (adjOf ds s).length i (j + 1) ∧ (Q ++ [x]).getD i 0 = u ∧ i < (Q ++ [x]).length) := by
                  have hiQ := HK.out.2.2.2
                  have hmem : Q.getD i 0 ∈ Q := by
                    rw [List.getD_eq_getElem?_getD, List.getElem?_eq_getElem hiQ]
                    exact List.getElem_mem hiQ
                  have hb := HK.out.2.1.b.next hmem (List.mem_of_getElem? HX.out) hxm hnq
                  refine ⟨(HK.out.2.1.grow hb).two (by simp; omega) (by rw [getD_snoc hiQ]; exact HX.out) (by simp), by rw [getD_snoc hiQ]; exact HK.out.2.2.1, by simp; omega⟩
                have HRow : Hid ((wr.setCell ⟨w.heap.size, x, none⟩ (.bool true)).ownsRow (w.heap.size + 1) 3 1 (.slice aq Q.length cq) Q.length (nums Q)) := HK.out.1.rowSet x
                have HBase : Hid (w.heap.size + 1 ≤ wr.heap.size) := HK.out.1.blk.lt
                clear hfx hnq
                go_wp2_with (first | (at_builtin; refine stopHere ?_))
                change wpList _ _ _ _ _ _
                clear d2 d3 d4 f4
                have HPush : Hid (∀ w4 v', w4.ownsRow (w.heap.size + 1) 3 1 v' (Q.length + 1) (nums Q ++ [.int .i64 x]) → Chg (fun k => (Value.slice aq Q.length cq).ownBlock = some k) (wr.setCell ⟨w.heap.size, x, none⟩ (.bool true)) w4 → BS m w.heap.size w w4 (updB f x true) (Q ++ [x]) v') := fun w4 v' h1 h2 => HK.out.1.push (Nat.le_refl _) h1 h2
                have e6 : (wr.setCell ⟨w.heap.size, x, none⟩ (.bool true)).heap.size = wr.heap.size := by simp
                generalize (wr.setCell ⟨w.heap.size, x, none⟩ (.bool true)) = w3 at *
                rw [← e6]
                rw [← e6] at HBase
                clear e6
                refine wp_push (w := w3) ?hg1 (.tmp 78) (.tmp 80) 47 ?hop1 (w.heap.size + 1) 3 Try.underlying47 infoS3 rfl _ _ _ ?hs1 HRow.out (.int .i64 x) rfl w3.heap.size ?hx1 (Chg.alloc _ _ _) (cell_alloc1 _ _ _) (by omega) (by decide) HBase.out ?_
                case hg1 => rfl
                case hop1 => rfl
                case hs1 => rfl
                case hx1 => rfl
                intro g cap w4 hr4 hc4 hg4 hb4
                have HP : Hid (BS m w.heap.size w w4 (updB f x true) (Q ++ [x]) (.slice (some ⟨g, 0, none⟩) (Q.length + 1) cap)) := HPush.out w4 _ hr4 hc4
                clear hr4 hc4 hg4 hb4 HRow HPush
                go_wp2
                go_roundg (l2 - (j + 1))
                case measure => go_light; omega
                case rel => exact ⟨j + 1, _, Q ++ [x], some ⟨g, 0, none⟩, cap, by omega, rfl, by go_num, by simp, by simpa using HP.out, HBf.out⟩
              · rw [hfx] at d4
                have HBf : Hid (BQ m (adjOf ds) s Q (adjOf ds s).length i (j + 1)) := HK.out.2.1.two HK.out.2.2.2 HX.out ((HK.out.1.seen x hxm).1 hfx)
                clear hfx
                go_wp2
                go_roundg (l2 - (j + 1))
                case measure => go_light; omega
                case rel => exact ⟨j + 1, f, Q, aq, cq, by omega, rfl, by go_num, rfl, HK.out.1, HBf.out, HK.out.2.2.1, HK.out.2.2.2⟩
            · have e : j = l2 := by omega
              subst e
              have HBf : Hid (BQ m (adjOf ds) s Q (adjOf ds s).length (i + 1) 0) := HK.out.2.1.next HK.out.2.2.2 (by rw [HK.out.2.2.1, HD.out, HDD.out])
              have hi1 : i < m := by have := HK.out.2.2.2; omega
              go_wp2
              go_roundg (m - (i + 1))
              case measure => go_light; omega
              case rel => exact ⟨i + 1, f, Q, aq, cq, by omega, rfl, by go_num, rfl, HK.out.1, HBf.out⟩
        · have e : i = Q.length := by omega
          have HEnd : Hid (∀ x, x < m → (f x = true ↔ From (adjOf ds) s x)) := fun x hx => by
            have h := HQ.out.2
            rw [e] at h
            rw [HQ.out.1.seen x hx]
            exact h.law x
          have hiz : ¬ (i : Int) < (Q.length : Int) := by omega
          clear e
          go_wp2
          go_ret
          exact ⟨w.heap.size, f, rfl, HQ.out.1.blk, HEnd.out, Nat.le_refl _, HQ.out.1.chg⟩

theorem info37 : (Try.prog.info? 37).map (fun i => (i.zero, i.size, i.bytes)) = some (some (.slice none 0 0), 1, 24) := by kernel_rfl
theorem mkS57 (n : Nat) (h : n ≤ 1048577) (w : World) : (Instr.makeSlice 57 (.int .i64 n) (.int .i64 n)).run Try.prog w = .ok (.slice (some ⟨w.heap.size, 0, none⟩) n n) (w.alloc (.cells (List.replicate n (Value.slice none 0 0)).toArray 37)) := by
  obtain ⟨i0, hi, hz0, hz1, hz2⟩ := info_parts info37
  have := run_make (P := Try.prog) w 57 37 i0 _ Try.underlying57 hi hz0 .i64 .i64 n n (by omega) (by omega) (by rw [hz2]; omega) (by omega)
  rw [hz1, Int.toNat_natCast, Nat.mul_one, made_cells _ rfl] at this
  exact this

structure RA (n : Nat) (adj : Nat → List Nat) (B : Nat) (w wr : World) (k : Nat) (hs : List Value) : Prop where
  blk : Blk wr B (hs ++ List.replicate (n - k) (.slice none 0 0)) 37
  len : hs.length = k
  rows : ∀ (v : Nat) (h : Value), hs[v]? = some h → ∃ g f, h = .slice (some ⟨g, 0, none⟩) n n ∧ g ≠ B ∧ Blk wr g (boolRow n f) 4 ∧ ∀ x, x < n → (f x = true ↔ From adj v x)
  chg : Chg (fun _ => False) w wr

theorem RA.step {n : Nat} {adj : Nat → List Nat} {B : Nat} {w wr : World} {k : Nat} {hs : List Value} (h : RA n adj B w wr k hs) (hk : k < n) (hB : w.heap.size ≤ B) {w2 : World} (hc : Chg (fun _ => False) wr w2) {g : Nat} {f : Nat → Bool} (hg : wr.heap.size ≤ g) (hb : Blk w2 g (boolRow n f) 4) (hf : ∀ x, x < n → (f x = true ↔ From adj k x)) :
    RA n adj B w (w2.setCell ⟨B, k, none⟩ (.slice (some ⟨g, 0, none⟩) n n)) (k + 1) (hs ++ [.slice (some ⟨g, 0, none⟩) n n]) := by
  have hlt := h.blk.lt
  have hs1 := Chg.setCell w2 ⟨B, k, none⟩ (.slice (some ⟨g, 0, none⟩) n n)
  exact {
    blk := by
      have h1 := (h.blk.chg hc (fun hf => hf)).set k (.slice (some ⟨g, 0, none⟩) n n)
      have e : (hs ++ List.replicate (n - k) (Value.slice none 0 0)).set k (.slice (some ⟨g, 0, none⟩) n n) = (hs ++ [.slice (some ⟨g, 0, none⟩) n n]) ++ List.replicate (n - (k + 1)) (Value.slice none 0 0) := by
        rw [show n - k = (n - (k + 1)) + 1 by omega, List.replicate_succ, List.set_append_right _ _ (by have := h.len; omega), h.len]
        simp
      rw [e] at h1
      exact h1
    len := by simp [h.len]
    rows := fun v x hv => by
      by_cases hik : v < hs.length
      · rw [List.getElem?_append_left hik] at hv
        obtain ⟨g', f', e1, e2, e3, e4⟩ := h.rows v x hv
        exact ⟨g', f', e1, e2, (e3.chg hc (fun h => h)).chg hs1 e2, e4⟩
      · have hi' : v = k := by
          have := (List.getElem?_eq_some_iff.1 hv).1
          have hl := h.len
          simp at this
          omega
        subst hi'
        rw [List.getElem?_append_right (by have := h.len; omega), h.len] at hv
        simp at hv
        subst hv
        exact ⟨g, f, rfl, by omega, hb.chg hs1 (fun e => by have e1 : g = B := e; omega), hf⟩
    chg := (h.chg.trans hc (fun _ h => h.elim)).trans hs1 (fun b hb => .inr (by have e : b = B := hb; omega)) }

/-- What reachAll hands back. -/
def RAllRes (n : Nat) (adj : Nat → List Nat) (w : World) (e : Ending) (w' : World) : Prop := ∃ (B : Nat) (T : Nat → Nat × (Nat → Bool)), e = .returned (.slice (some ⟨B, 0, none⟩) n n) ∧ (∀ v, v < n → w'.cell? ⟨B, v, none⟩ = some (.slice (some ⟨(T v).1, 0, none⟩) n n) ∧ (∀ x, x < n → w'.cell? ⟨(T v).1, x, none⟩ = some (.bool ((T v).2 x))) ∧ ∀ x, x < n → ((T v).2 x = true ↔ From adj v x)) ∧ Chg (fun _ => False) w w'

theorem RA.res {n : Nat} {adj : Nat → List Nat} {B : Nat} {w wr : World} {hs : List Value} (h : RA n adj B w wr n hs) : RAllRes n adj w (.returned (.slice (some ⟨B, 0, none⟩) n n)) wr := by
  have each : ∀ v, v < n → ∃ t : Nat × (Nat → Bool), wr.cell? ⟨B, v, none⟩ = some (.slice (some ⟨t.1, 0, none⟩) n n) ∧ (∀ x, x < n → wr.cell? ⟨t.1, x, none⟩ = some (.bool (t.2 x))) ∧ ∀ x, x < n → (t.2 x = true ↔ From adj v x) := fun v hv => by
    have hl : v < hs.length := by rw [h.len]; exact hv
    obtain ⟨g, f, e1, _, e3, e4⟩ := h.rows v _ (List.getElem?_eq_getElem hl)
    refine ⟨(g, f), ?_, fun x hx => e3.cell (boolRow_at f hx), e4⟩
    have := h.blk.cell (i := v) (v := .slice (some ⟨g, 0, none⟩) n n) (by rw [List.getElem?_append_left hl, List.getElem?_eq_getElem hl, e1])
    exact this
  refine ⟨B, fun v => if hv : v < n then (each v hv).choose else (0, fun _ => false), rfl, fun v hv => ?_, h.chg⟩
  simp only [dif_pos hv]
  exact (each v hv).choose_spec

set_option maxHeartbeats 1000000 in
set_option maxRecDepth 100000 in
theorem all33 (w : World) (a : Option Addr) (m c : Nat) (ds : List (List Nat)) (h : Grid w (.slice a m c) (ds.map nums)) (hm : ds.length = m) (hm4 : m ≤ 4096) (hl : ∀ d ∈ ds, d.length ≤ 131072) (hlt : ∀ d ∈ ds, ∀ x ∈ d, x < m) : Calls Try.prog 33 #[.slice a m c] w (RAllRes m (adjOf ds) w) := by
  have HR : Hid (∀ W s, Chg (fun _ => False) w W → s < m → Calls Try.prog 48 #[.slice a m c, .int .i64 (s : Nat)] W (ReachRes m (adjOf ds) s W)) := fun W s hc hs => reach48 W a m c ds (h.chg hc) hm hm4 hl hlt s hs
  have mk := mkS57 m (by omega)
  have H0 : Hid (RA m (adjOf ds) w.heap.size w (w.alloc (.cells (Array.replicate m (Value.slice none 0 0)) 37)) 0 []) := {
    blk := by
      have := Blk.new w (List.replicate m (Value.slice none 0 0)) 37
      simpa using this
    len := rfl
    rows := fun v h hh => by simp at hh
    chg := Chg.alloc _ _ _ }
  clear h hm hl hlt
  go_enter Try.func33, Try.ntmps33
  go_wp2
  go_loopg [4] m (fun gh s wi => ∃ (k : Nat) (hs : List Value), k ≤ m ∧ gh = m - k ∧ s = .int .i64 k ∧ Hid (RA m (adjOf ds) w.heap.size w wi k hs))
  case atStart => exact ⟨0, [], Nat.zero_le _, rfl, rfl, H0.out⟩
  case round =>
    obtain ⟨k, hs, hk, rfl, rfl, HD⟩ := hrel
    clear H0
    by_cases hkm : k < m
    · have hkz : (k : Int) < (m : Int) := by omega
      obtain ⟨y, hy⟩ : ∃ y, (hs ++ List.replicate (m - k) (Value.slice none 0 0))[k]? = some y := ⟨_, List.getElem?_eq_getElem (by have := HD.out.len; simp; omega)⟩
      have HY : Hid ((hs ++ List.replicate (m - k) (Value.slice none 0 0))[k]? = some y) := hy
      have HCl : Hid (Calls Try.prog 48 #[.slice a m c, .int .i64 (k : Nat)] wr (ReachRes m (adjOf ds) k wr)) := HR.out wr k HD.out.chg hkm
      clear hy
      go_wp2_with (go_at_call 48; refine HCl.out.mono ?_; rintro e w2 ⟨g, f, rfl, hb2, hf2, hg2, hc2⟩; have d2 := (HD.out.blk.chg hc2 (fun h => h)).cell HY.out; have f2 := (HD.out.blk.chg hc2 (fun h => h)).free k; have HN : Hid (RA m (adjOf ds) w.heap.size w (w2.setCell ⟨w.heap.size, k, none⟩ (.slice (some ⟨g, 0, none⟩) m m)) (k + 1) (hs ++ [.slice (some ⟨g, 0, none⟩) m m])) := HD.out.step hkm (Nat.le_refl _) hc2 hg2 hb2 hf2; clear hb2 hf2 hg2 hc2)
      go_roundg (m - (k + 1))
      case measure => go_light; omega
      case rel => exact ⟨k + 1, _, by omega, rfl, by go_num, HN.out⟩
    · have e : k = m := by omega
      subst e
      go_wp2
      go_ret
      exact HD.out.res
end Go.Proofs.Qxb6616078a
