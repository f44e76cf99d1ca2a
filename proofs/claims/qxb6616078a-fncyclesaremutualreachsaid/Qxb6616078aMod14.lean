/- modelCycles: the walk. -/
import Derived.Test.Qxb6616078aMod
namespace Go.Proofs.Qxb6616078a
open Go.RowKit Tj

theorem info22m : (Try.prog.info? 22).map (fun i => (i.zero, i.size, i.bytes)) = some (some (.slice none 0 0), 1, 24) := by kernel_rfl

/-- What modelCycles hands back. -/
def ModRes (ss : List (List UInt8)) (ds : List (List Nat)) (w : World) (e : Ending) (w' : World) : Prop := ∃ a1 c1 a2 c2 gs sl, e = .returned (.tuple #[.slice a1 (List.length gs) c1, .slice a2 (List.length sl) c2]) ∧ Cyc ss ds w' (.slice a1 (List.length gs) c1) (.slice a2 (List.length sl) c2) gs sl ∧ Chg (fun _ => False) w w'

theorem sl_at {w : World} {a : Option Addr} {c : Nat} {ss : List (List UInt8)} (h : Sl w (.slice a ss.length c) (ss.map encStr)) (v : Nat) (hv : v < ss.length) : ∃ b o, a = some ⟨b, o, none⟩ ∧ w.cell? ⟨b, o + v, none⟩ = some (encStr (nameOf ss v)) := by
  refine h.at ?_
  simp [nameOf, List.getD_eq_getElem?_getD, List.getElem?_eq_getElem hv]

theorem Row.shape22 {w : World} {base : Nat} {v : Value} {hdrs : List Value} {gs : List (List (List UInt8))} (h : GR w base v hdrs gs) : ∃ a c, v = .slice a hdrs.length c := by
  rcases Row.look h.row with ⟨hv, hn, _⟩ | ⟨g, cap, hv, _⟩
  · exact ⟨none, 0, by rw [hv, hn]⟩
  · exact ⟨_, cap, hv⟩

/-- The vertices below k that lead to themselves. -/
def selfTo (adj : Nat → List Nat) (k : Nat) : List Nat := (List.range k).filter fun u => (adj u).contains u
theorem selfTo_succ (adj : Nat → List Nat) (k : Nat) : selfTo adj (k + 1) = selfTo adj k ++ if (adj k).contains k then [k] else [] := by
  unfold selfTo
  rw [List.range_succ, List.filter_append]
  simp [List.filter_cons]
theorem selfTo_le (adj : Nat → List Nat) (k : Nat) : (selfTo adj k).length ≤ k := by
  have := List.length_filter_le (fun u => (adj u).contains u) (List.range k)
  rw [List.length_range] at this
  exact this
theorem GR.grid {w : World} {base : Nat} {v : Value} {hdrs : List Value} {gs : List (List (List UInt8))} (h : GR w base v hdrs gs) : Grid w v (gs.map fun g => g.map encStr) := by
  refine ⟨hdrs, (Row.sl0 h.row).sl, by simp [h.len], fun i x xs hx hxs => ?_⟩
  rw [List.getElem?_map] at hxs
  cases hg : gs[i]? with
  | none => rw [hg] at hxs; simp at hxs
  | some g =>
    rw [hg] at hxs
    simp at hxs
    subst hxs
    obtain ⟨b, cap, _, _, e3⟩ := h.rows i x g hx hg
    exact (Row.sl0 e3).sl

theorem groupsOf_le (ss : List (List UInt8)) : ∀ cs : List (List Nat), (groupsOf ss cs).length ≤ cs.flatten.length
  | [] => by simp [groupsOf]
  | c :: r => by
    have ih := groupsOf_le ss r
    unfold groupsOf at ih ⊢
    rw [List.length_map] at ih ⊢
    by_cases h : 1 < c.length
    · rw [List.filter_cons_of_pos (by simpa using h)]
      simp at ih ⊢
      omega
    · rw [List.filter_cons_of_neg (by simpa using h)]
      simp at ih ⊢
      omega

theorem classTo_len (R : Nat → Nat → Bool) (fl : List Nat) (v k : Nat) : (classTo R fl v k).length ≤ k + 1 := by
  unfold classTo
  have := List.length_filter_le (fun x => decide (v < x) && !fl.contains x && R v x && R x v) (List.range k)
  rw [List.length_range] at this
  rw [List.length_cons]
  omega

set_option maxHeartbeats 4000000 in
set_option maxRecDepth 100000 in
theorem mod14 (w : World) (ss : List (List UInt8)) (ds : List (List Nat)) (hG : G ss ds) (a1 : Option Addr) (c1 : Nat) (h1 : Sl w (.slice a1 ss.length c1) (ss.map encStr)) (a2 : Option Addr) (c2 : Nat) (h2 : Grid w (.slice a2 ss.length c2) (ds.map nums)) :
    Calls Try.prog 14 #[.slice a1 ss.length c1, .slice a2 ss.length c2] w (ModRes ss ds w) := by
  have HG : Hid (G ss ds) := hG
  have hm4 := hG.n
  have HN : Hid (∀ v, v < ss.length → ∃ b o, a1 = some ⟨b, o, none⟩ ∧ w.cell? ⟨b, o + v, none⟩ = some (encStr (nameOf ss v))) := sl_at h1
  have HA : Hid (∀ w', w = w' → Calls Try.prog 33 #[.slice a2 ss.length c2] w' (RAllRes ss.length (adjOf ds) w')) := fun w' e => by
    subst e
    exact all33 w a2 ss.length c2 ds h2 hG.len hG.n hG.each hG.lt
  have HEdge : Hid (∀ W v, Chg (fun _ => False) w W → v < ss.length → Calls Try.prog 36 #[.slice a2 ss.length c2, .int .i64 (v : Nat), .int .i64 (v : Nat)] W fun e w' => e = .returned (.bool ((adjOf ds v).contains v)) ∧ w' = W) := fun W v hc hv => edge36 W a2 ss.length c2 ds (h2.chg hc) hG.len hG.each v v hv
  have mk := make37 ss.length (by omega)
  clear h1 h2 hG
  go_enter Try.func14, Try.ntmps14
  go_upto_block 0 with (first | (go_at_call 33; refine (HA.out _ rfl).mono ?_; rintro e w1 ⟨B, T, rfl, hT, hc1⟩; have HT : Hid (∀ v, v < ss.length → w1.cell? ⟨B, v, none⟩ = some (.slice (some ⟨(T v).1, 0, none⟩) ss.length ss.length) ∧ (∀ x, x < ss.length → w1.cell? ⟨(T v).1, x, none⟩ = some (.bool ((T v).2 x))) ∧ ∀ x, x < ss.length → ((T v).2 x = true ↔ From (adjOf ds) v x)) := hT; have HC1 : Hid (Chg (fun _ => False) w w1) := hc1; clear hT hc1))
  have H0 : Hid (MS ss (adjOf ds) w1.heap.size w1 (w1.alloc (.cells (boolRow ss.length fun _ => false).toArray 4)) (fun _ => false) [] (.slice none 0 0) [] 0) := ⟨Blk.new w1 _ 4, by simp, MG.start _ _, ⟨⟨rfl, .inl ⟨rfl, rfl⟩⟩, rfl, fun i h g hh => by simp at hh⟩, Chg.alloc _ _ _⟩
  clear mk HA
  generalize (boolRow ss.length fun _ => false) = R0 at *
  go_wp2
  go_loopg [9, 10] ss.length (fun gh s t wi => ∃ (v : Nat) (fd : Nat → Bool) (cs : List (List Nat)) (hdrs : List Value) (ag : Option Addr) (cg : Nat), v ≤ ss.length ∧ gh = ss.length - v ∧ t = .int .i64 v ∧ s = .slice ag hdrs.length cg ∧ Hid (MS ss (adjOf ds) w1.heap.size w1 wi fd cs (.slice ag hdrs.length cg) hdrs v))
  case atStart => exact ⟨0, _, [], [], none, 0, Nat.zero_le _, rfl, rfl, rfl, H0.out⟩
  case round =>
    obtain ⟨v, fd, cs, hdrs, ag, cg, hv, rfl, rfl, rfl, HK⟩ := hrel
    clear H0
    by_cases hvm : v < ss.length
    · have hvz : (v : Int) < (ss.length : Int) := by omega
      have d1 := HK.out.done.cell (boolRow_at fd hvm)
      have f1 := HK.out.done.free v
      cases hfd : fd v
      · rw [hfd] at d1
        have HI0 : Hid (IS ss w1.heap.size (fun u x => (T u).2 x) wr.heap.size w1 ((wr.setCell ⟨w1.heap.size, v, none⟩ (.bool true)).alloc (.cells #[encStr (nameOf ss v)] 9)) (updB fd v true) cs (.slice ag hdrs.length cg) hdrs v (v + 1) (.slice (some ⟨wr.heap.size, 0, none⟩) 1 1)) := HK.out.open_ (Nat.le_refl _)
        obtain ⟨bn, on, rfl, e1⟩ := HN.out v hvm
        have hx1 : Chg (fun k => k = w1.heap.size) w (wr.setCell ⟨w1.heap.size, v, none⟩ (.bool true)) := ((HC1.out.trans HK.out.chg (fun _ h => h.elim)).mono (fun _ h => h.elim)).trans (Chg.setCell wr ⟨w1.heap.size, v, none⟩ _) (fun b hb => .inl hb)
        have d2 : (wr.setCell ⟨w1.heap.size, v, none⟩ (.bool true)).cell? ⟨bn, on + v, none⟩ = some (encStr (nameOf ss v)) := (chg_ge hx1 (fun k hk => by have := HC1.out.size; omega)).cell e1 (fun h => h)
        have HMg : Hid (MG ss.length (adjOf ds) (cs ++ [classTo (fun u x => (T u).2 x) cs.flatten v ss.length]) (v + 1)) := by
          refine HK.out.mg.step hvm (fun hm => ?_) (fun u hu => (HG.out.adj u hu).2) _ (fun u x hu hx => (HT.out u hu).2.2 x hx)
          have := (HK.out.fdE v hvm).2 hm
          rw [hfd] at this
          cases this
        have HFl : Hid (cs.flatten.length ≤ ss.length) := nodup_le ss.length _ HK.out.mg.nodup HK.out.mg.lt
        clear e1 hx1 hfd
        go_upto_block 2 with (fail)
        obtain ⟨N0, hN0⟩ : ∃ N0, N0 = wr.heap.size := ⟨_, rfl⟩
        rw [← hN0] at HI0
        rw [← hN0]
        refine atWorld (fun W' => Hid (IS ss w1.heap.size (fun u x => (T u).2 x) N0 w1 W' (updB fd v true) cs (.slice ag hdrs.length cg) hdrs v (v + 1) (.slice (some ⟨N0, 0, none⟩) 1 1))) HI0.out ?_
        intro W2 HI1
        clear HI0 hN0 HK d1 d2 f1
        go_wp2
        go_loopg [11, 12] (ss.length - (v + 1)) (fun gh s t wi => ∃ (k : Nat) (f : Nat → Bool) (ar : Option Addr) (cr : Nat), v + 1 ≤ k ∧ k ≤ ss.length ∧ gh = ss.length - k ∧ t = .int .i64 k ∧ s = .slice ar (classTo (fun u x => (T u).2 x) cs.flatten v k).length cr ∧ Hid (IS ss w1.heap.size (fun u x => (T u).2 x) N0 w1 wi f cs (.slice ag hdrs.length cg) hdrs v k (.slice ar (classTo (fun u x => (T u).2 x) cs.flatten v k).length cr)))
        case atStart => exact ⟨v + 1, _, some ⟨N0, 0, none⟩, 1, Nat.le_refl _, by omega, rfl, rfl, by rw [classTo_start]; rfl, by rw [classTo_start]; exact HI1.out⟩
        case round =>
          obtain ⟨k, f, ar, cr, hk1, hk2, rfl, rfl, rfl, HI⟩ := hrel
          clear HI1
          have HLen : Hid ((classTo (fun u x => (T u).2 x) cs.flatten v k).length ≤ 4097) := by
            have := classTo_len (fun u x => (T u).2 x) cs.flatten v k
            show _ ≤ _
            omega
          by_cases hkm : k < ss.length
          · have hkz : (k : Int) < (ss.length : Int) := by omega
            obtain ⟨bn', on', eb, e2⟩ := HN.out k hkm
            cases eb
            have hcw := HC1.out.trans HI.out.chg (fun _ h => h.elim)
            have d1 := HI.out.done.cell (boolRow_at f hkm)
            have f1 := HI.out.done.free k
            have t1 : wr.cell? ⟨B, v, none⟩ = some (.slice (some ⟨(T v).1, 0, none⟩) ss.length ss.length) := HI.out.chg.cell (HT.out v hvm).1 (fun h => h)
            have t2 : wr.cell? ⟨(T v).1, k, none⟩ = some (.bool ((T v).2 k)) := HI.out.chg.cell ((HT.out v hvm).2.1 k hkm) (fun h => h)
            have t3 : wr.cell? ⟨B, k, none⟩ = some (.slice (some ⟨(T k).1, 0, none⟩) ss.length ss.length) := HI.out.chg.cell (HT.out k hkm).1 (fun h => h)
            have t4 : wr.cell? ⟨(T k).1, v, none⟩ = some (.bool ((T k).2 v)) := HI.out.chg.cell ((HT.out k hkm).2.1 v hvm) (fun h => h)
            have hfk := HI.out.notYet hkm (by omega)
            have HYes : Hid ((!f k && (T v).2 k && (T k).2 v) = true → (!cs.flatten.contains k && (T v).2 k && (T k).2 v) = true) := fun h => by rw [← hfk]; exact h
            have HNo : Hid ((!f k && (T v).2 k && (T k).2 v) = false → IS ss w1.heap.size (fun u x => (T u).2 x) N0 w1 wr f cs (.slice ag hdrs.length cg) hdrs v (k + 1) (.slice ar (classTo (fun u x => (T u).2 x) cs.flatten v k).length cr) ∧ classTo (fun u x => (T u).2 x) cs.flatten v (k + 1) = classTo (fun u x => (T u).2 x) cs.flatten v k) := fun h => by
              rw [hfk] at h
              refine ⟨HI.out.keep (by omega) h, ?_⟩
              rw [classTo_succ _ _ _ _ (by omega)]
              simp only [h]
              simp
            have d2 : (wr.setCell ⟨w1.heap.size, k, none⟩ (.bool true)).cell? ⟨bn, on + k, none⟩ = some (encStr (nameOf ss k)) := by
              have hx1 : Chg (fun q => q = w1.heap.size) w (wr.setCell ⟨w1.heap.size, k, none⟩ (.bool true)) := (hcw.mono (fun _ h => h.elim)).trans (Chg.setCell wr ⟨w1.heap.size, k, none⟩ _) (fun b hb => .inl hb)
              exact (chg_ge hx1 (fun q hq => by have := HC1.out.size; omega)).cell e2 (fun h => h)
            clear e2 hcw hfk
            generalize hq0 : f k = q0 at *
            generalize hq1 : (T v).2 k = q1 at *
            generalize hq2 : (T k).2 v = q2 at *
            cases q0
            · cases q1
              · have hS := HNo.out rfl
                have HS1 : Hid (IS ss w1.heap.size (fun u x => (T u).2 x) N0 w1 wr f cs (.slice ag hdrs.length cg) hdrs v (k + 1) (.slice ar (classTo (fun u x => (T u).2 x) cs.flatten v k).length cr)) := hS.1
                have HE : Hid (classTo (fun u x => (T u).2 x) cs.flatten v (k + 1) = classTo (fun u x => (T u).2 x) cs.flatten v k) := hS.2
                clear hS HYes HNo hq0 hq1 hq2
                go_wp2
                go_roundg (ss.length - (k + 1))
                case measure => go_light; omega
                case rel => exact ⟨k + 1, f, ar, cr, by omega, by omega, rfl, by go_num, by rw [HE.out], by rw [HE.out]; exact HS1.out⟩
              · cases q2
                · have hS := HNo.out rfl
                  have HS1 : Hid (IS ss w1.heap.size (fun u x => (T u).2 x) N0 w1 wr f cs (.slice ag hdrs.length cg) hdrs v (k + 1) (.slice ar (classTo (fun u x => (T u).2 x) cs.flatten v k).length cr)) := hS.1
                  have HE : Hid (classTo (fun u x => (T u).2 x) cs.flatten v (k + 1) = classTo (fun u x => (T u).2 x) cs.flatten v k) := hS.2
                  clear hS HYes HNo hq0 hq1 hq2
                  go_wp2
                  go_roundg (ss.length - (k + 1))
                  case measure => go_light; omega
                  case rel => exact ⟨k + 1, f, ar, cr, by omega, by omega, rfl, by go_num, by rw [HE.out], by rw [HE.out]; exact HS1.out⟩
                · have hyes := HYes.out rfl
                  have HRow : Hid ((wr.setCell ⟨w1.heap.size, k, none⟩ (.bool true)).ownsRow N0 9 1 (.slice ar (classTo (fun u x => (T u).2 x) cs.flatten v k).length cr) (classTo (fun u x => (T u).2 x) cs.flatten v k).length (((classTo (fun u x => (T u).2 x) cs.flatten v k).map (nameOf ss)).map encStr)) := HI.out.rowSet k
                  have HBase : Hid (N0 ≤ wr.heap.size) := HI.out.nW
                  have HPush : Hid (∀ w4 v', w4.ownsRow N0 9 1 v' ((classTo (fun u x => (T u).2 x) cs.flatten v k).length + 1) (((classTo (fun u x => (T u).2 x) cs.flatten v k).map (nameOf ss)).map encStr ++ [encStr (nameOf ss k)]) → Chg (fun b => (Value.slice ar (classTo (fun u x => (T u).2 x) cs.flatten v k).length cr).ownBlock = some b) (wr.setCell ⟨w1.heap.size, k, none⟩ (.bool true)) w4 → IS ss w1.heap.size (fun u x => (T u).2 x) N0 w1 w4 (updB f k true) cs (.slice ag hdrs.length cg) hdrs v (k + 1) v') := fun w4 v' h1 h2 => HI.out.push (Nat.le_refl _) (by omega) (by rw [hq1, hq2]; exact hyes) h1 h2
                  have HE : Hid ((classTo (fun u x => (T u).2 x) cs.flatten v (k + 1)).length = (classTo (fun u x => (T u).2 x) cs.flatten v k).length + 1) := by
                    show _ = _
                    rw [classTo_succ _ _ _ _ (by omega)]
                    simp only [hq1, hq2, hyes]
                    simp
                  clear HYes HNo hq0 hq1 hq2 hyes
                  generalize (classTo (fun u x => (T u).2 x) cs.flatten v k).length = cl at *
                  go_wp2_with (first | (at_builtin; refine stopHere ?_))
                  change wpList _ _ _ _ _ _
                  clear d1 d2 f1 t1 t2 t3 t4
                  have e6 : (wr.setCell ⟨w1.heap.size, k, none⟩ (.bool true)).heap.size = wr.heap.size := by simp
                  generalize (wr.setCell ⟨w1.heap.size, k, none⟩ (.bool true)) = w3 at *
                  rw [← e6]
                  rw [← e6] at HBase
                  clear e6
                  refine wp_push (w := w3) ?hg1 (.tmp 71) (.tmp 76) 22 ?hop1 N0 9 Try.underlying22 infoS9 rfl _ _ _ ?hs1 HRow.out (encStr (nameOf ss k)) rfl w3.heap.size ?hx1 (Chg.alloc _ _ _) (cell_alloc1 _ _ _) (by have := HLen.out; omega) (by decide) HBase.out ?_
                  case hg1 => rfl
                  case hop1 => rfl
                  case hs1 => rfl
                  case hx1 => rfl
                  intro g cap w4 hr4 hc4 hg4 hb4
                  have HP : Hid (IS ss w1.heap.size (fun u x => (T u).2 x) N0 w1 w4 (updB f k true) cs (.slice ag hdrs.length cg) hdrs v (k + 1) (.slice (some ⟨g, 0, none⟩) (cl + 1) cap)) := HPush.out w4 _ hr4 hc4
                  clear hr4 hc4 hg4 hb4 HRow HPush
                  go_wp2
                  go_roundg (ss.length - (k + 1))
                  case measure => go_light; omega
                  case rel => exact ⟨k + 1, _, some ⟨g, 0, none⟩, cap, by omega, by omega, rfl, by go_num, by rw [HE.out], by rw [HE.out]; exact HP.out⟩
            · have hS := HNo.out rfl
              have HS1 : Hid (IS ss w1.heap.size (fun u x => (T u).2 x) N0 w1 wr f cs (.slice ag hdrs.length cg) hdrs v (k + 1) (.slice ar (classTo (fun u x => (T u).2 x) cs.flatten v k).length cr)) := hS.1
              have HE : Hid (classTo (fun u x => (T u).2 x) cs.flatten v (k + 1) = classTo (fun u x => (T u).2 x) cs.flatten v k) := hS.2
              clear hS HYes HNo hq0 hq1 hq2
              go_wp2
              go_roundg (ss.length - (k + 1))
              case measure => go_light; omega
              case rel => exact ⟨k + 1, f, ar, cr, by omega, by omega, rfl, by go_num, by rw [HE.out], by rw [HE.out]; exact HS1.out⟩
          · have e : k = ss.length := by omega
            subst e
            have hkz : ¬ (ss.length : Int) < (ss.length : Int) := by omega
            have hhl : hdrs.length ≤ 4096 := by
              have h2 := HI.out.gr.len
              have h3 := groupsOf_le ss cs
              have h4 := HFl.out
              omega
            by_cases hone : 1 < (classTo (fun u x => (T u).2 x) cs.flatten v ss.length).length
            · have HSort : Hid (Calls Try.prog 34 #[.slice ar (classTo (fun u x => (T u).2 x) cs.flatten v ss.length).length cr] wr (Sorted34 wr N0 (.slice ar (classTo (fun u x => (T u).2 x) cs.flatten v ss.length).length cr) ((classTo (fun u x => (T u).2 x) cs.flatten v ss.length).map (nameOf ss)))) := sort34 wr N0 _ _ (by rw [List.length_map]; exact HI.out.row) (by rw [List.length_map]; have := HLen.out; omega)
              have HBig : Hid (∀ w5 w6 vg', Chg (fun b => (Value.slice ar (classTo (fun u x => (T u).2 x) cs.flatten v ss.length).length cr).ownBlock = some b) wr w5 → w5.ownsRow N0 9 1 (.slice ar (classTo (fun u x => (T u).2 x) cs.flatten v ss.length).length cr) (classTo (fun u x => (T u).2 x) cs.flatten v ss.length).length ((((classTo (fun u x => (T u).2 x) cs.flatten v ss.length).map (nameOf ss)).mergeSort leB).map encStr) → w6.ownsRow (w1.heap.size + 1) 22 1 vg' (hdrs.length + 1) (hdrs ++ [.slice ar (classTo (fun u x => (T u).2 x) cs.flatten v ss.length).length cr]) → Chg (fun b => (Value.slice ag hdrs.length cg).ownBlock = some b) w5 w6 → (∀ b, vg'.ownBlock = some b → (Value.slice ag hdrs.length cg).ownBlock = some b ∨ w5.heap.size ≤ b) → MS ss (adjOf ds) w1.heap.size w1 w6 f (cs ++ [classTo (fun u x => (T u).2 x) cs.flatten v ss.length]) vg' (hdrs ++ [.slice ar (classTo (fun u x => (T u).2 x) cs.flatten v ss.length).length cr]) (v + 1)) := fun w5 w6 vg' k1 k2 k3 k4 k5 => HI.out.big (Nat.le_refl _) HMg.out hone k1 k2 k3 k4 k5
              have HRow5 : Hid (∀ w5, Chg (fun b => (Value.slice ar (classTo (fun u x => (T u).2 x) cs.flatten v ss.length).length cr).ownBlock = some b) wr w5 → w5.ownsRow (w1.heap.size + 1) 22 1 (.slice ag hdrs.length cg) hdrs.length hdrs ∧ w1.heap.size + 1 ≤ w5.heap.size) := fun w5 hc => ⟨Row.chg HI.out.gr.row hc (fun b hb hf => by
                have h1 := HI.out.old1 b hb
                have h2 := (own_ge' HI.out.row hf).1
                omega), by
                have h1 := HI.out.done.lt
                have h2 := hc.size
                omega⟩
              have honez : (1 : Int) < ((classTo (fun u x => (T u).2 x) cs.flatten v ss.length).length : Int) := by omega
              generalize hcl : (classTo (fun u x => (T u).2 x) cs.flatten v ss.length).length = cl at *
              generalize hcc : cs ++ [classTo (fun u x => (T u).2 x) cs.flatten v ss.length] = cs2 at *
              generalize hnm : (classTo (fun u x => (T u).2 x) cs.flatten v ss.length).map (nameOf ss) = nm at *
              have HNl : Hid (nm.length = cl) := by
                show _ = _
                rw [← hnm, List.length_map, hcl]
              clear HI HLen hone hcl hcc hnm HMg
              go_wp2_with (first | (go_at_call 34; refine HSort.out.mono ?_; rintro e w5 ⟨rfl, hc5, hr5⟩; rw [HNl.out] at hr5; have HC5 : Hid (Chg (fun b => (Value.slice ar cl cr).ownBlock = some b) wr w5 ∧ w5.ownsRow N0 9 1 (.slice ar cl cr) cl ((nm.mergeSort leB).map encStr)) := ⟨hc5, hr5⟩; clear hc5 hr5) | (at_builtin; refine stopHere ?_))
              change wpList _ _ _ _ _ _
              refine wp_push (w := w5) ?hg1 (.tmp 83) (.tmp 85) 30 ?hop1 (w1.heap.size + 1) 22 Try.underlying30 info22m rfl _ _ _ ?hs1 (HRow5.out w5 HC5.out.1).1 (.slice ar cl cr) rfl w5.heap.size ?hx1 (Chg.alloc _ _ _) (cell_alloc1 _ _ _) (by omega) (by decide) (HRow5.out w5 HC5.out.1).2 ?_
              case hg1 => rfl
              case hop1 => rfl
              case hs1 => rfl
              case hx1 => rfl
              intro g cap w6 hr6 hc6 hg6 hb6
              have HP : Hid (MS ss (adjOf ds) w1.heap.size w1 w6 f cs2 (.slice (some ⟨g, 0, none⟩) (hdrs.length + 1) cap) (hdrs ++ [.slice ar cl cr]) (v + 1)) := HBig.out w5 w6 _ HC5.out.1 HC5.out.2 hr6 hc6 (fun b hb => by
                have e : g = b := by simpa [Value.ownBlock] using hb
                rw [← e]
                exact hg6)
              clear hr6 hc6 hg6 hb6 HBig HRow5 HSort HC5
              go_wp2
              go_roundg (ss.length - (v + 1))
              case measure => go_light; omega
              case rel => exact ⟨v + 1, f, cs2, hdrs ++ [.slice ar cl cr], some ⟨g, 0, none⟩, cap, by omega, rfl, by go_num, by rw [List.length_append]; rfl, by rw [List.length_append]; exact HP.out⟩
            · have HS : Hid (MS ss (adjOf ds) w1.heap.size w1 wr f (cs ++ [classTo (fun u x => (T u).2 x) cs.flatten v ss.length]) (.slice ag hdrs.length cg) hdrs (v + 1)) := HI.out.small HMg.out hone
              have honez : ¬ (1 : Int) < ((classTo (fun u x => (T u).2 x) cs.flatten v ss.length).length : Int) := by omega
              generalize (classTo (fun u x => (T u).2 x) cs.flatten v ss.length).length = cl at *
              clear HI HLen
              go_wp2
              go_roundg (ss.length - (v + 1))
              case measure => go_light; omega
              case rel => exact ⟨v + 1, f, _, hdrs, ag, cg, by omega, rfl, by go_num, rfl, HS.out⟩
      · rw [hfd] at d1
        have HS : Hid (MS ss (adjOf ds) w1.heap.size w1 wr fd cs (.slice ag hdrs.length cg) hdrs (v + 1)) := HK.out.skip hvm hfd
        clear hfd
        go_wp2
        go_roundg (ss.length - (v + 1))
        case measure => go_light; omega
        case rel => exact ⟨v + 1, fd, cs, hdrs, ag, cg, by omega, rfl, by go_num, rfl, HS.out⟩
    · have e : v = ss.length := by omega
      subst e
      have hvz : ¬ (ss.length : Int) < (ss.length : Int) := by omega
      have hfl := nodup_le ss.length _ HK.out.mg.nodup HK.out.mg.lt
      have hgl := groupsOf_le ss cs
      have hgn := HK.out.gr.len
      have HS35 : Hid (Calls Try.prog 35 #[.slice ag hdrs.length cg] wr (SortRes wr (w1.heap.size + 1) (.slice ag hdrs.length cg) hdrs (groupsOf ss cs))) := sort35 wr (w1.heap.size + 1) _ hdrs (groupsOf ss cs) HK.out.gr (fun g hg e => by
        subst e
        unfold groupsOf at hg
        obtain ⟨c, hc, he⟩ := List.mem_map.1 hg
        have h1 := of_decide_eq_true (List.mem_filter.1 hc).2
        have h2 := congrArg List.length he
        simp at h2
        rw [h2] at h1
        simp at h1) (by omega)
      have HMgE : Hid (MG ss.length (adjOf ds) cs ss.length) := HK.out.mg
      have HCw : Hid (Chg (fun _ => False) w wr) := HC1.out.trans HK.out.chg (fun _ h => h.elim)
      have HBl : Hid (w.heap.size ≤ w1.heap.size) := HC1.out.size
      have hhl : hdrs.length ≤ 4096 := by omega
      clear HK hfl hgl hgn HT
      go_upto_block 4 with (first | (go_at_call 35; refine HS35.out.mono ?_; rintro e w5 ⟨rfl, hc5, hd5, gs, hG5, hl5, hm5, hp5, hs5⟩; have HG5 : Hid (GR w5 (w1.heap.size + 1) (.slice ag hdrs.length cg) hd5 gs ∧ gs.Perm (groupsOf ss cs) ∧ gs.Pairwise (fun a b => a.headD [] ≤ b.headD []) ∧ hd5.length = hdrs.length) := ⟨hG5, hp5, hs5, hl5⟩; have HC5 : Hid (Chg (fun _ => False) w w5) := HCw.out.trans hc5 (fun b hb => .inr (by have h1 := (hG5.blocks.1 b hb).1; have h2 := HBl.out; omega)); clear hc5 hG5 hl5 hm5 hp5 hs5))
      have H1 : Hid (w5.ownsRow w5.heap.size 9 1 (.slice none 0 0) 0 (((selfTo (adjOf ds) 0).map (nameOf ss)).map encStr) ∧ Chg (fun _ => False) w5 w5) := ⟨⟨rfl, .inl ⟨rfl, rfl⟩⟩, Chg.refl _ _⟩
      go_wp2
      go_loopg [13, 14] ss.length (fun gh s t wi => ∃ (v : Nat) (aq : Option Addr) (ca : Nat), v ≤ ss.length ∧ gh = ss.length - v ∧ t = .int .i64 v ∧ s = .slice aq (selfTo (adjOf ds) v).length ca ∧ Hid (wi.ownsRow w5.heap.size 9 1 (.slice aq (selfTo (adjOf ds) v).length ca) (selfTo (adjOf ds) v).length (((selfTo (adjOf ds) v).map (nameOf ss)).map encStr) ∧ Chg (fun _ => False) w5 wi))
      case atStart => exact ⟨0, none, 0, Nat.zero_le _, rfl, rfl, rfl, H1.out⟩
      case round =>
        obtain ⟨v, aq, ca, hv2, rfl, rfl, rfl, HK⟩ := hrel
        clear H1
        have hsl := selfTo_le (adjOf ds) v
        have HSl : Hid ((selfTo (adjOf ds) v).length ≤ 4096) := by show _ ≤ _; omega
        clear hsl
        by_cases hvm2 : v < ss.length
        · have hvz2 : (v : Int) < (ss.length : Int) := by omega
          obtain ⟨bn, on, ea, e2⟩ := HN.out v hvm2
          subst ea
          have hcw := HC5.out.trans HK.out.2 (fun _ h => h.elim)
          have d2 : wr.cell? ⟨bn, on + v, none⟩ = some (encStr (nameOf ss v)) := hcw.cell e2 (fun h => h)
          have HE : Hid (Calls Try.prog 36 #[.slice a2 ss.length c2, .int .i64 (v : Nat), .int .i64 (v : Nat)] wr fun e w' => e = .returned (.bool ((adjOf ds v).contains v)) ∧ w' = wr) := HEdge.out wr v hcw hvm2
          have HZ := selfTo_succ (adjOf ds) v
          have HZ : Hid (selfTo (adjOf ds) (v + 1) = selfTo (adjOf ds) v ++ if (adjOf ds v).contains v then [v] else []) := HZ
          clear e2 hcw
          generalize (adjOf ds v).contains v = q at *
          cases q
          · have HZ2 : Hid (selfTo (adjOf ds) (v + 1) = selfTo (adjOf ds) v) := by
              show _ = _
              rw [HZ.out]
              simp
            clear HZ
            go_wp2_with (first | (go_at_call 36; refine HE.out.mono ?_; rintro e w6 ⟨rfl, rfl⟩))
            go_roundg (ss.length - (v + 1))
            case measure => go_light; omega
            case rel => exact ⟨v + 1, aq, ca, by omega, rfl, by go_num, by rw [HZ2.out], by rw [HZ2.out]; exact HK.out⟩
          · have HZ2 : Hid (selfTo (adjOf ds) (v + 1) = selfTo (adjOf ds) v ++ [v]) := by
              show _ = _
              rw [HZ.out]
              simp
            clear HZ
            have HBase : Hid (w5.heap.size ≤ wr.heap.size) := HK.out.2.size
            go_wp2_with (first | (go_at_call 36; refine HE.out.mono ?_; rintro e w6 ⟨rfl, hw6⟩; subst hw6) | (at_builtin; refine stopHere ?_))
            change wpList _ _ _ _ _ _
            refine wp_push (w := w6) ?hg1 (.tmp 98) (.tmp 103) 22 ?hop1 w5.heap.size 9 Try.underlying22 infoS9 rfl _ _ _ ?hs1 HK.out.1 (encStr (nameOf ss v)) rfl w6.heap.size ?hx1 (Chg.alloc _ _ _) (cell_alloc1 _ _ _) (by have := HSl.out; omega) (by decide) HBase.out ?_
            case hg1 => rfl
            case hop1 => rfl
            case hs1 => rfl
            case hx1 => rfl
            intro g cap w7 hr7 hc7 hg7 hb7
            have HP : Hid (w7.ownsRow w5.heap.size 9 1 (.slice (some ⟨g, 0, none⟩) ((selfTo (adjOf ds) v).length + 1) cap) ((selfTo (adjOf ds) v).length + 1) (((selfTo (adjOf ds) v ++ [v]).map (nameOf ss)).map encStr) ∧ Chg (fun _ => False) w5 w7) := ⟨by simpa using hr7, HK.out.2.trans hc7 (fun b hb => .inr (own_ge' HK.out.1 hb).1)⟩
            clear hr7 hc7 hg7 hb7 HK
            go_wp2
            go_roundg (ss.length - (v + 1))
            case measure => go_light; omega
            case rel => exact ⟨v + 1, some ⟨g, 0, none⟩, cap, by omega, rfl, by go_num, by rw [HZ2.out, List.length_append]; rfl, by rw [HZ2.out, List.length_append]; exact HP.out⟩
        · have e : v = ss.length := by omega
          subst e
          have hvz2 : ¬ (ss.length : Int) < (ss.length : Int) := by omega
          have HSort : Hid (Calls Try.prog 34 #[.slice aq (selfTo (adjOf ds) ss.length).length ca] wr (Sorted34 wr w5.heap.size (.slice aq (selfTo (adjOf ds) ss.length).length ca) ((selfTo (adjOf ds) ss.length).map (nameOf ss)))) := sort34 wr w5.heap.size _ _ (by rw [List.length_map]; exact HK.out.1) (by rw [List.length_map]; have := HSl.out; omega)
          have HEnd : Hid (∀ w8, Chg (fun b => (Value.slice aq (selfTo (adjOf ds) ss.length).length ca).ownBlock = some b) wr w8 → w8.ownsRow w5.heap.size 9 1 (.slice aq (selfTo (adjOf ds) ss.length).length ca) (selfTo (adjOf ds) ss.length).length ((((selfTo (adjOf ds) ss.length).map (nameOf ss)).mergeSort leB).map encStr) → ModRes ss ds w (.returned (.tuple #[.slice ag hdrs.length cg, .slice aq (selfTo (adjOf ds) ss.length).length ca])) w8) := fun w8 hc8 hr8 => by
            have hc58 : Chg (fun _ => False) w5 w8 := HK.out.2.trans hc8 (fun b hb => .inr (own_ge' HK.out.1 hb).1)
            have hgl : gs.length = hdrs.length := by rw [← HG5.out.1.len, HG5.out.2.2.2]
            have hsl2 : (((selfTo (adjOf ds) ss.length).map (nameOf ss)).mergeSort leB).length = (selfTo (adjOf ds) ss.length).length := by rw [List.length_mergeSort, List.length_map]
            refine ⟨ag, cg, aq, ca, gs, ((selfTo (adjOf ds) ss.length).map (nameOf ss)).mergeSort leB, by rw [hgl, hsl2], ?_, HC5.out.trans hc58 (fun _ h => h.elim)⟩
            rw [hgl, hsl2]
            have hinj : ∀ u v, u < ss.length → v < ss.length → nameOf ss u = nameOf ss v → u = v := fun u v hu hv he => by
              unfold nameOf at he
              rw [List.getD_eq_getElem?_getD, List.getD_eq_getElem?_getD, List.getElem?_eq_getElem hu, List.getElem?_eq_getElem hv] at he
              exact nodup_inj HG.out.names hu hv he
            refine ⟨HG5.out.1.grid.chg hc58, (Row.sl0 hr8).sl, ?_, ?_, by omega⟩
            · exact groups_of_comps hinj HMgE.out.nodup (fun x => ⟨HMgE.out.lt x, HMgE.out.done x⟩) HMgE.out.scc HG5.out.2.1 HG5.out.2.2.1
            · refine ⟨selfTo (adjOf ds) ss.length, List.Pairwise.filter _ List.nodup_range, fun x => ?_, rfl⟩
              unfold selfTo
              simp
          have HNl : Hid (((selfTo (adjOf ds) ss.length).map (nameOf ss)).length = (selfTo (adjOf ds) ss.length).length) := by show _ = _; rw [List.length_map]
          clear HK HSl
          generalize (selfTo (adjOf ds) ss.length).length = sn at *
          generalize (selfTo (adjOf ds) ss.length).map (nameOf ss) = nm at *
          go_wp2_with (first | (go_at_call 34; refine HSort.out.mono ?_; rintro e w8 ⟨rfl, hc8, hr8⟩; rw [HNl.out] at hr8; have HR : Hid (ModRes ss ds w (.returned (.tuple #[.slice ag hdrs.length cg, .slice aq sn ca])) w8) := HEnd.out w8 hc8 hr8; clear hc8 hr8))
          go_ret2
          exact HR.out
end Go.Proofs.Qxb6616078a
