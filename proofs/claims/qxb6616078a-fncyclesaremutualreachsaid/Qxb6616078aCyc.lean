/- cycles. -/
import Derived.Test.Qxb6616078aSortG
import Derived.Test.Qxb6616078aIdx
namespace Go.Proofs.Qxb6616078a
open Go.RowKit Tj

/-- slices.Sort of a row of the call's own. -/
theorem sort44 (w : World) (base : Nat) (v : Value) (ss : List (List UInt8)) (h : w.ownsRow base 9 1 v ss.length (ss.map encStr)) (hn : ss.length ≤ 1048576) : Calls Try.prog 44 #[v] w fun e w' => e = .returned (.tuple #[]) ∧ Chg (fun k => v.ownBlock = some k) w w' ∧ w'.ownsRow base 9 1 v ss.length ((ss.mergeSort leB).map encStr) := by
  rcases Row.look h with ⟨rfl, hz, _⟩ | ⟨g, cap, rfl, hb, hlt, hle, hm, _, _, cur, hcur, hcs, htk⟩
  · have e : ss = [] := List.eq_nil_of_length_eq_zero hz
    subst e
    refine (Try.slices_Sort_string_none none 0 w).mono ?_
    rintro e w' ⟨rfl, rfl⟩
    exact ⟨rfl, Chg.refl _ _, by simpa using h⟩
  · refine (Try.slices_Sort_string g 0 cap ss w (holds_of_block hcur htk) hlt (by omega)).mono ?_
    rintro e w' ⟨rfl, n, os, rfl⟩
    refine ⟨rfl, (Chg.grown (grownBy_sorted _)).mono (fun b hb => .inl (by
      have e : b = g := by injection hb
      rw [e]
      rfl)), ?_⟩
    exact ownsRow_sorted (by simp) hb hcur hle hm (by omega)

/-- What cycles hands back. -/
def CycRes (ss : List (List UInt8)) (adj : Nat → List Nat) (w : World) (e : Ending) (w' : World) : Prop := ∃ (vg vs : Value) (gs : List (List (List UInt8))) (sl : List (List UInt8)), e = .returned (.tuple #[vg, vs]) ∧ Grid w' vg (gs.map fun g => g.map encStr) ∧ Sl w' vs (sl.map encStr) ∧ IsGroups (fun v => ss.getD v []) ss.length (fun u v => Tj.Reach adj u v ∧ Tj.Reach adj v u) gs ∧ IsSelf (fun v => ss.getD v []) ss.length (fun v => v ∈ adj v) sl ∧ gs.length ≤ 4096 ∧ Chg (fun _ => False) w w'

/-- The boxes of cycles, and 'every' filled as far as k. -/
structure C0 (X : XP) (w wr : World) (k : Nat) : Prop where
  core : FCore X wr (.slice none 0 0) (.slice none 0 0) [] [] []
  every : Blk wr (X.b0 + 3) (numRow X.A.n (fun j => if j < k then j else 0)) 3
  chg : Chg (fun _ => False) w wr

theorem C0.step {X : XP} {w wr : World} {k : Nat} (h : C0 X w wr k) (hb : w.heap.size = X.b0) : C0 X w (wr.setCell ⟨X.b0 + 3, k, none⟩ (.int .i64 k)) (k + 1) where
  core := h.core.chg (Chg.setCell wr ⟨X.b0 + 3, k, none⟩ _) (fun b hb => by
    have e : b = X.b0 + 3 := hb
    subst e
    refine ⟨by omega, ?_⟩
    rintro (h | h | h | h | ⟨x, hx, _⟩)
    · omega
    · omega
    · cases h
    · cases h
    · simp at hx)
  every := by
    have := h.every.set k (.int .i64 k)
    rw [numRow_set] at this
    have e : (fun i => if i = k then k else if i < k then i else 0) = fun j => if j < k + 1 then j else 0 := by
      funext j
      by_cases e1 : j = k
      · subst e1; simp
      · by_cases e2 : j < k
        · simp [e1, e2, show j < k + 1 by omega]
        · simp [e1, e2, show ¬ j < k + 1 by omega]
    rw [e] at this
    exact this
  chg := h.chg.trans (Chg.setCell wr ⟨X.b0 + 3, k, none⟩ _) (fun b hb' => .inr (by have e : b = X.b0 + 3 := hb'; omega))

theorem names_at {w : World} {nv : Value} {ss : List (List UInt8)} (h : Sl0 w nv (ss.map encStr)) : ∃ a cn bn, nv = .slice a ss.length cn ∧ (ss.length = 0 ∨ nv = .slice (some ⟨bn, 0, none⟩) ss.length cn) ∧ (∀ v, v < ss.length → w.cell? ⟨bn, v, none⟩ = some (encStr (ss.getD v []))) ∧ bn ≤ w.heap.size := by
  obtain ⟨a, c, rfl, h⟩ := h
  rw [List.length_map]
  rcases h with h | ⟨b, rfl, h⟩
  · have e : ss = [] := by simpa using h
    subst e
    exact ⟨a, c, 0, rfl, .inl rfl, fun v hv => by simp at hv, Nat.zero_le _⟩
  · by_cases h0 : ss.length = 0
    · exact ⟨_, c, 0, rfl, .inl h0, fun v hv => by omega, Nat.zero_le _⟩
    · have hc : ∀ v, v < ss.length → w.cell? ⟨b, v, none⟩ = some (encStr (ss.getD v [])) := fun v hv => by
        refine h v _ ?_
        simp [List.getD_eq_getElem?_getD, List.getElem?_eq_getElem hv]
      refine ⟨_, c, b, rfl, .inr rfl, hc, ?_⟩
      have := hc 0 (by omega)
      rcases Nat.lt_or_ge b w.heap.size with h' | h'
      · omega
      · simp [World.cell?, Array.getElem?_eq_none h'] at this

def Comps (A : Adj) (cs : List (List Nat)) : Prop := cs.flatten.Nodup ∧ (∀ v, v ∈ cs.flatten ↔ v < A.n) ∧ ∀ c ∈ cs, (∀ u ∈ c, ∀ v ∈ c, Tj.Reach A.adj u v) ∧ ∀ u ∈ c, ∀ v, Tj.Reach A.adj u v → Tj.Reach A.adj v u → v ∈ c

def CycX (X : XP) (w : World) (e : Ending) (w' : World) : Prop := ∃ (vg vs : Value) (gs : List (List (List UInt8))) (cs : List (List Nat)), e = .returned (.tuple #[vg, vs]) ∧ Grid w' vg (gs.map fun g => g.map encStr) ∧ Sl w' vs (((selfsOf X cs).mergeSort leB).map encStr) ∧ gs.Perm (grpsOf X cs) ∧ gs.Pairwise (fun a b => a.headD [] ≤ b.headD []) ∧ Comps X.A cs ∧ Chg (fun _ => False) w w'

/-- What components leaves behind. -/
def CompRes (X : XP) (w w' : World) : Prop := ∃ D cs, FS X w' D cs ∧ Chg (X.Dom (.slice none 0 0) (.slice none 0 0) []) w w' ∧ Comps X.A cs

theorem CompRes.parts {X : XP} {w w' : World} (h : CompRes X w w') (hn : X.A.n ≤ 4096) : ∃ cs as1 cs1 ag1 cg1 hd, FCore X w' (.slice as1 (selfsOf X cs).length cs1) (.slice ag1 (grpsOf X cs).length cg1) hd (selfsOf X cs) (grpsOf X cs) ∧ Chg (fun k => k = X.b0 + 1 ∨ k = X.b0 + 2) w w' ∧ Comps X.A cs ∧ (selfsOf X cs).length ≤ 4096 ∧ (grpsOf X cs).length ≤ 4096 := by
  obtain ⟨D, cs, ⟨vs, vg, hd, hF, _, hx⟩, hc, hcomp⟩ := h
  have hlen := length_le_of_nodup X.A.n _ hcomp.1 hx
  have h1 : (selfsOf X cs).length ≤ cs.flatten.length := by
    unfold selfsOf
    rw [List.length_map]
    exact List.length_filter_le _ _
  have h2 := grps_le X cs
  obtain ⟨as1, cs1, rfl⟩ : ∃ a c, vs = .slice a (selfsOf X cs).length c := by
    rcases Row.look hF.sR with ⟨hv, hz, _⟩ | ⟨g, cap, hv, _⟩
    · exact ⟨none, 0, by rw [hv, hz]⟩
    · exact ⟨_, cap, hv⟩
  obtain ⟨ag1, cg1, rfl⟩ : ∃ a c, vg = .slice a (grpsOf X cs).length c := by
    rw [← hF.hL]
    rcases Row.look hF.gR with ⟨hv, hz, _⟩ | ⟨g, cap, hv, _⟩
    · exact ⟨none, 0, by rw [hv, hz]⟩
    · exact ⟨_, cap, hv⟩
  refine ⟨cs, as1, cs1, ag1, cg1, hd, hF, hc.mono (fun b hb => ?_), hcomp, by omega, by omega⟩
  rcases hb with h | h | h | h | ⟨x, hx, _⟩
  · exact .inl (.inl h)
  · exact .inl (.inr h)
  · cases h
  · cases h
  · simp at hx

/-- Two results that lie in boxes. -/
theorem results_cell2 {P : Program} {fn : Func} {p q : Tmp} {ty ty' : TypeId} (h : fn.results = #[.cell p ty, .cell q ty']) (tmps : Array Value) (w : World) (a a' : Addr) (v v' : Value) (hp : tmps.getD p undef = .pointer (some a)) (hq : tmps.getD q undef = .pointer (some a')) (h1 : (isAgg ty).run P w = .ok false w) (h2 : (isAgg ty').run P w = .ok false w) (c1 : w.cell? a = some v) (c2 : w.cell? a' = some v') :
    (results fn tmps).run P w = .ok (.tuple #[v, v']) w := by
  have hp' : tmps[p]?.getD undef = .pointer (some a) := by simpa using hp
  have hq' : tmps[q]?.getD undef = .pointer (some a') := by simpa using hq
  simp [results, h, hp', hq', asAddr, loadVar, h1, h2, c1, c2]

/-- Behind both sorts. -/
structure CycEnd (X : XP) (w1 w3 : World) (vg vs : Value) (gs : List (List (List UInt8))) (ts : List (List UInt8)) : Prop where
  gB : Blk w3 (X.b0 + 1) [vg] 30
  sB : Blk w3 (X.b0 + 2) [vs] 22
  chg : Chg (fun k => X.b0 + 3 ≤ k) w1 w3
  fin : ∀ w4, Chg (fun k => k = X.b0 + 1 ∨ k = X.b0 + 2) w3 w4 → Grid w4 vg (gs.map fun g => g.map encStr) ∧ Sl w4 vs (ts.map encStr)

theorem cyc_end {X : XP} {w1 w2 w3 : World} {vs vg : Value} {hd hd2 : List Value} {selfs ts : List (List UInt8)} {grps gs : List (List (List UInt8))} (hF : FCore X w1 vs vg hd selfs grps) (hG : GR w2 (X.b0 + 3) vg hd2 gs) (hm : ∀ h ∈ hd2, h ∈ hd) (hc2 : Chg (fun k => vg.ownBlock = some k) w1 w2) (hc3 : Chg (fun k => vs.ownBlock = some k) w2 w3) {n : Nat} (hr3 : w3.ownsRow (X.b0 + 3) 9 1 vs n (ts.map encStr)) : CycEnd X w1 w3 vg vs gs ts := by
  have hvg : ∀ k, vg.ownBlock = some k → X.b0 + 3 ≤ k := fun k e => (own_ge hF.gR e).1
  have hvs : ∀ k, vs.ownBlock = some k → X.b0 + 3 ≤ k := fun k e => (own_ge hF.sR e).1
  have hb2 : ∀ k, k < X.b0 + 3 → ¬ vg.ownBlock = some k := fun k hk e => by have := hvg k e; omega
  have hb3 : ∀ k, k < X.b0 + 3 → ¬ vs.ownBlock = some k := fun k hk e => by have := hvs k e; omega
  refine ⟨(hF.gB.chg hc2 (hb2 _ (by omega))).chg hc3 (hb3 _ (by omega)), (hF.sB.chg hc2 (hb2 _ (by omega))).chg hc3 (hb3 _ (by omega)), ?_, fun w4 hc4 => ⟨⟨hd2, ?_, by simp [hG.len], fun i h xs hh hxs => ?_⟩, ?_⟩⟩
  · exact (hc2.mono (fun b hb => .inl (hvg b hb))).trans hc3 (fun b hb => .inl (hvs b hb))
  · have h1 := Row.chg (Row.chg hG.row hc3 (fun b hb hf => own_ne hF.sR hF.gR (by decide) hf hb)) hc4 (fun b hb hf => by have := hvg b hb; omega)
    exact (Row.sl0 h1).sl
  · rw [List.getElem?_map] at hxs
    cases hg : gs[i]? with
    | none => rw [hg] at hxs; simp at hxs
    | some g =>
      rw [hg] at hxs
      simp at hxs
      subst hxs
      obtain ⟨b, cap, e1, e2, e3⟩ := hG.rows i h g hh hg
      have hmem := hm h (List.mem_of_getElem? hh)
      obtain ⟨j, hj, hje⟩ := List.getElem_of_mem hmem
      obtain ⟨b', cap', f1, f2, _, _⟩ := hF.hR j h _ (by rw [← hje]; exact List.getElem?_eq_getElem hj) (List.getElem?_eq_getElem (by have := hF.hL; omega))
      have hbb : b = b' := by
        rw [e1] at f1
        injection f1 with f1
        injection f1 with f1
        injection f1
      have hown : h.ownBlock = some b := by rw [e1]; rfl
      have h1 := Row.chg (Row.chg e3 hc3 (fun k hk hf => by
        rw [hown] at hk
        cases hk
        exact f2 (by rw [← hbb]; exact hf))) hc4 (fun k hk hf => by have := (own_ge e3 hk).1; omega)
      exact (Row.sl0 h1).sl
  · have h1 := Row.chg hr3 hc4 (fun b hb hf => by have := hvs b hb; omega)
    exact (Row.sl0 h1).sl

set_option maxHeartbeats 4000000 in
set_option maxRecDepth 100000 in
theorem cyc32x (X : XP) (w : World) (b : Nat) (an : Option Addr) (cn : Nat) (hXv : X.nv = .slice an X.A.n cn) (hXm : X.mv = .map (some b)) (hb0 : X.b0 = w.heap.size) (hnE : X.A.n = 0 ∨ X.nv = .slice (some ⟨X.bn, 0, none⟩) X.A.n X.cn) (hnC : ∀ v, v < X.A.n → w.cell? ⟨X.bn, v, none⟩ = some (encStr (X.nm v))) (hnL : X.bn ≤ X.b0)
    (hok : X.A.Ok) (hcl : X.A.st X.A.n ≤ X.A.cl) (hA : X.A.At w w.heap.size) (hn : X.A.n ≤ 4096) :
    Calls Try.prog 32 #[.agg #[.slice an X.A.n cn, .map (some b), .slice (some ⟨X.A.bs, 0, none⟩) (X.A.n + 1) X.A.cs, .slice (some ⟨X.A.bl, 0, none⟩) (X.A.st X.A.n) X.A.cl]] w (CycX X w) := by
  have H0 : Hid (C0 X w ((((w.alloc (.cells #[.slice an X.A.n cn, .map (some b), .slice (some ⟨X.A.bs, 0, none⟩) (X.A.n + 1) X.A.cs, .slice (some ⟨X.A.bl, 0, none⟩) (X.A.st X.A.n) X.A.cl] 55)).alloc (.cells #[.slice none 0 0] 30)).alloc (.cells #[.slice none 0 0] 22)).alloc (.cells (numRow X.A.n fun _ => 0).toArray 3)) 0) := by
    have hc := chg_allocs [.cells #[.slice an X.A.n cn, .map (some b), .slice (some ⟨X.A.bs, 0, none⟩) (X.A.n + 1) X.A.cs, .slice (some ⟨X.A.bl, 0, none⟩) (X.A.st X.A.n) X.A.cl] 55, .cells #[.slice none 0 0] 30, .cells #[.slice none 0 0] 22, .cells (numRow X.A.n fun _ => 0).toArray 3] w
    have hb := heap_allocs [.cells #[.slice an X.A.n cn, .map (some b), .slice (some ⟨X.A.bs, 0, none⟩) (X.A.n + 1) X.A.cs, .slice (some ⟨X.A.bl, 0, none⟩) (X.A.st X.A.n) X.A.cl] 55, .cells #[.slice none 0 0] 30, .cells #[.slice none 0 0] 22, .cells (numRow X.A.n fun _ => 0).toArray 3] w
    rw [← hb0] at hb
    exact {
      core := {
        xB := by rw [hXv, hXm]; exact hb 0 _ rfl
        nE := hnE
        nC := fun v hv => hc.cell (hnC v hv) (fun h => h)
        nL := hnL
        adj := (hA.chg hc (fun _ h => h.elim)).up (by omega)
        gB := hb 1 _ rfl
        sB := hb 2 _ rfl
        sR := ⟨rfl, .inl ⟨rfl, rfl⟩⟩
        gR := ⟨rfl, .inl ⟨rfl, rfl⟩⟩
        hL := rfl
        hR := fun i h g hh => by simp at hh }
      every := by
        have := hb 3 _ rfl
        show _ = _
        rw [show (fun j => if j < 0 then j else 0) = fun _ => 0 by funext j; simp]
        exact this
      chg := hc }
  have mk := make47 X.A.n (by omega)
  have HK : Hid (Keeper (X.b0 + 1) X.A.n (FS X) (.pointer (some ⟨X.b0, 0, none⟩), .pointer (some ⟨X.b0 + 2, 0, none⟩), .pointer (some ⟨X.b0 + 1, 0, none⟩))) := keeper X hok hcl (by omega)
  have HOk : Hid X.A.Ok := hok
  have HXb : Hid (X.b0 = w.heap.size) := hb0
  have hmf : ∀ (fn : Fn) (first cap : Array Value) (w : World), (Instr.makeFunc fn first cap).run Try.prog w = .ok (.func fn first cap) w := fun _ _ _ _ => rfl
  clear hXv hXm hnE hnC hnL hok hcl hA
  go_enter Try.func32, Try.ntmps32
  go_upto_block 0 with (fail)
  rw [← hb0]
  rw [show X.b0 + 1 + 1 + 1 = X.b0 + 3 from rfl, show X.b0 + 1 + 1 = X.b0 + 2 from rfl]
  refine atWorld (fun W' => Hid (C0 X w W' 0)) H0.out ?_
  intro W0 HW0
  clear H0 mk hb0
  go_wp2
  go_loopg [12] X.A.n (fun gh s wi => ∃ k : Nat, k ≤ X.A.n ∧ gh = X.A.n - k ∧ s = .int .i64 k ∧ Hid (C0 X w wi k))
  case atStart => exact ⟨0, Nat.zero_le _, rfl, rfl, HW0.out⟩
  case round =>
    obtain ⟨k, hk, rfl, rfl, HC⟩ := hrel
    clear HW0
    by_cases hkn : k < X.A.n
    · have hkz : (k : Int) < (X.A.n : Int) := by omega
      have d1 := HC.out.every.cell (numRow_at (fun j => if j < k then j else 0) hkn)
      have f1 := HC.out.every.free k
      have HS : Hid (C0 X w (wr.setCell ⟨X.b0 + 3, k, none⟩ (.int .i64 k)) (k + 1)) := HC.out.step HXb.out.symm
      go_wp2
      go_roundg (X.A.n - (k + 1))
      case measure => go_light; omega
      case rel => exact ⟨k + 1, by omega, rfl, by go_num, HS.out⟩
    · have e : k = X.A.n := by omega
      subst e
      have x2 := HC.out.core.xB.cell (i := 2) rfl
      have x3 := HC.out.core.xB.cell (i := 3) rfl
      unfold Adj.sv at x2
      unfold Adj.lv at x3
      have HComp : Hid (Calls Try.prog 40 #[.agg #[.slice (some ⟨X.A.bs, 0, none⟩) (X.A.n + 1) X.A.cs, .slice (some ⟨X.A.bl, 0, none⟩) (X.A.st X.A.n) X.A.cl], .slice (some ⟨X.b0 + 3, 0, none⟩) X.A.n X.A.n, .slice none 0 0, .func (.func 41) #[] #[.pointer (some ⟨X.b0, 0, none⟩), .pointer (some ⟨X.b0 + 2, 0, none⟩), .pointer (some ⟨X.b0 + 1, 0, none⟩)]] wr fun e w' => e = .returned (.tuple #[]) ∧ CompRes X wr w') := by
        have := components_any X.A (X.b0 + 1) (FS X) _ _ _ HK.out HOk.out wr HC.out.core.adj (by have := HC.out.core.gB.lt; omega) (X.Dom (.slice none 0 0) (.slice none 0 0) []) ⟨_, _, _, HC.out.core, rfl, by simp⟩ (X.b0 + 3) X.A.n (fun j hj => by
          have := HC.out.every.cell (numRow_at (fun j => if j < X.A.n then j else 0) hj)
          rw [if_pos hj] at this
          exact this) (by
          rintro (h | h | h | h | ⟨x, hx, _⟩)
          · omega
          · omega
          · cases h
          · cases h
          · simp at hx)
        unfold Adj.sv Adj.lv at this
        exact this
      go_upto_region 8 with (first | (go_at_call 40; refine HComp.out.mono ?_; rintro e w1 ⟨rfl, hR⟩; have HR : Hid (CompRes X wr w1) := hR; clear hR))
      obtain ⟨cs, as1, cs1, ag1, cg1, hd, hF, hcw, hcomp, hsl, hgl⟩ := HR.out.parts hn
      have HF : Hid (FCore X w1 (.slice as1 (selfsOf X cs).length cs1) (.slice ag1 (grpsOf X cs).length cg1) hd (selfsOf X cs) (grpsOf X cs)) := hF
      have HCw : Hid (Chg (fun _ => False) w w1) := HC.out.chg.trans hcw (fun b hb => .inr (by have := HXb.out; omega))
      have HCo : Hid (Comps X.A cs) := hcomp
      have g1 := hF.gB.cell (i := 0) rfl
      have HS45 : Hid (Calls Try.prog 45 #[.slice ag1 (grpsOf X cs).length cg1, .func (.func 46) #[] #[]] w1 (SortRes w1 (X.b0 + 3) (.slice ag1 (grpsOf X cs).length cg1) hd (grpsOf X cs))) := sort45 w1 (X.b0 + 3) _ hd (grpsOf X cs) ⟨hF.gR, hF.hL, fun i h g hh hg => by
        obtain ⟨b, cap, e1, _, e3, e4⟩ := hF.hR i h g hh hg
        exact ⟨b, cap, e1, e3, e4⟩⟩ (fun g hg e => by
        subst e
        unfold grpsOf at hg
        obtain ⟨c, hc, he⟩ := List.mem_map.1 hg
        have h1 := of_decide_eq_true (List.mem_filter.1 hc).2
        have h2 := congrArg List.length he
        simp at h2
        rw [h2] at h1
        simp at h1) (by omega)
      clear hF hcw hcomp x2 x3 HComp HR HC
      generalize hgn : (grpsOf X cs).length = gn at *
      generalize hsn : (selfsOf X cs).length = sn at *
      have HGn : Hid ((grpsOf X cs).length = gn) := hgn
      have HSn : Hid ((selfsOf X cs).length = sn) := hsn
      clear hgn hsn
      go_upto_region 9 with (first | (go_at_call 45; refine HS45.out.mono ?_; rintro e w2 ⟨rfl, hc2, hd2, gs, hG2, hl2, hm2, hp2, hw2⟩; have HG2 : Hid (GR w2 (X.b0 + 3) (.slice ag1 gn cg1) hd2 gs ∧ (∀ h ∈ hd2, h ∈ hd) ∧ gs.Perm (grpsOf X cs) ∧ gs.Pairwise (fun a b => a.headD [] ≤ b.headD [])) := ⟨hG2, hm2, hp2, hw2⟩; have HC2 : Hid (Chg (fun k => (Value.slice ag1 gn cg1).ownBlock = some k) w1 w2) := hc2; clear hc2 hG2 hl2 hm2 hp2 hw2))
      have hvb : ∀ k, k < X.b0 + 3 → ¬ (Value.slice ag1 gn cg1).ownBlock = some k := fun k hk e => by have := (own_ge HF.out.gR e).1; omega
      have s2 := (HF.out.sB.chg HC2.out (hvb _ (by omega))).cell (i := 0) rfl
      have HS44 : Hid (Calls Try.prog 44 #[.slice as1 sn cs1] w2 fun e w' => e = .returned (.tuple #[]) ∧ Chg (fun k => (Value.slice as1 sn cs1).ownBlock = some k) w2 w' ∧ w'.ownsRow (X.b0 + 3) 9 1 (.slice as1 sn cs1) sn (((selfsOf X cs).mergeSort leB).map encStr)) := by
        have := sort44 w2 (X.b0 + 3) (.slice as1 sn cs1) (selfsOf X cs) (Row.chg HF.out.sR HC2.out (fun b hb hf => own_ne HF.out.sR HF.out.gR (by decide) hb hf)) (by rw [HSn.out]; omega)
        rw [HSn.out] at this
        exact this
      clear hvb g1 HS45
      go_upto_region 10 with (first | (go_at_call 44; refine HS44.out.mono ?_; rintro e w3 ⟨rfl, hc3, hr3⟩; have HC3 : Hid (Chg (fun k => (Value.slice as1 sn cs1).ownBlock = some k) w2 w3 ∧ w3.ownsRow (X.b0 + 3) 9 1 (.slice as1 sn cs1) sn (((selfsOf X cs).mergeSort leB).map encStr)) := ⟨hc3, hr3⟩; clear hc3 hr3))
      have HEnd : Hid (CycEnd X w1 w3 (.slice ag1 gn cg1) (.slice as1 sn cs1) gs ((selfsOf X cs).mergeSort leB)) := cyc_end HF.out HG2.out.1 HG2.out.2.1 HC2.out HC3.out.1 HC3.out.2
      have g3 := HEnd.out.gB.cell (i := 0) rfl
      have gf := HEnd.out.gB.free 0
      have s3 := HEnd.out.sB.cell (i := 0) rfl
      have sf := HEnd.out.sB.free 0
      clear s2 HS44
      go_region
      all_goals
        go_wp2
        obtain ⟨W4, hW4⟩ : ∃ W4, W4 = ((w3.setCell ⟨X.b0 + 1, 0, none⟩ (.slice ag1 gn cg1)).setCell ⟨X.b0 + 2, 0, none⟩ (.slice as1 sn cs1)).drew := ⟨_, rfl⟩
        have hc4 : Chg (fun k => k = X.b0 + 1 ∨ k = X.b0 + 2) w3 W4 := by
          rw [hW4]
          exact (((Chg.setCell w3 ⟨X.b0 + 1, 0, none⟩ _).mono (fun b hb => .inl (.inl hb))).trans (Chg.setCell _ ⟨X.b0 + 2, 0, none⟩ _) (fun b hb => .inl (.inr hb))).trans (Chg.drew (fun _ => False) _) (fun _ h => h.elim)
        have b1 : W4.cell? ⟨X.b0 + 1, 0, none⟩ = some (.slice ag1 gn cg1) := by
          have h1 := ((HEnd.out.gB.set 0 (.slice ag1 gn cg1)).chg (Chg.setCell _ ⟨X.b0 + 2, 0, none⟩ (.slice as1 sn cs1)) (by simp)).cell (i := 0) rfl
          rw [hW4]
          exact h1
        have b2 : W4.cell? ⟨X.b0 + 2, 0, none⟩ = some (.slice as1 sn cs1) := by
          have h1 := ((HEnd.out.sB.chg (Chg.setCell w3 ⟨X.b0 + 1, 0, none⟩ (.slice ag1 gn cg1)) (by simp)).set 0 (.slice as1 sn cs1)).cell (i := 0) rfl
          rw [hW4]
          exact h1
        rw [← hW4]
        refine bodyPost_ret (results_cell2 rfl _ _ ⟨X.b0 + 1, 0, none⟩ ⟨X.b0 + 2, 0, none⟩ _ _ rfl rfl (Try.isAgg30 _) (Try.isAgg22 _) b1 b2) rfl ?_
        obtain ⟨hg, hs⟩ := HEnd.out.fin W4 hc4
        refine ⟨_, _, gs, cs, rfl, hg, hs, HG2.out.2.2.1, HG2.out.2.2.2, HCo.out, ?_⟩
        exact (HCw.out.trans HEnd.out.chg (fun b hb => .inr (by have := HXb.out; omega))).trans hc4 (fun b hb => .inr (by have := HXb.out; omega))

theorem nodup_inj {α : Type} {l : List α} (h : l.Nodup) {i j : Nat} (hi : i < l.length) (hj : j < l.length) (e : l[i] = l[j]) : i = j := by
  rcases Nat.lt_trichotomy i j with h1 | h1 | h1
  · exact absurd e (List.pairwise_iff_getElem.1 h i j hi hj h1)
  · exact h1
  · exact absurd e.symm (List.pairwise_iff_getElem.1 h j i hj hi h1)

theorem cyc32 (w : World) (A : Adj) (nv : Value) (b : Nat) (ss : List (List UInt8)) (hok : A.Ok) (hcl : A.st A.n ≤ A.cl) (hA : A.At w w.heap.size) (hnv : Sl0 w nv (ss.map encStr)) (hAn : A.n = ss.length) (hn : ss.length ≤ 4096) (hnd : ss.Nodup) :
    Calls Try.prog 32 #[.agg #[nv, .map (some b), A.sv, A.lv]] w (CycRes ss A.adj w) := by
  obtain ⟨an, cn, bn, rfl, hnE, hnC, hnL⟩ := names_at hnv
  rw [← hAn] at hnE hnC
  have h : Calls Try.prog 32 #[.agg #[.slice an A.n cn, .map (some b), A.sv, A.lv]] w (CycX ⟨A, w.heap.size, .slice an A.n cn, .map (some b), bn, cn, fun v => ss.getD v []⟩ w) := cyc32x ⟨A, w.heap.size, .slice an A.n cn, .map (some b), bn, cn, fun v => ss.getD v []⟩ w b an cn rfl rfl rfl hnE hnC hnL hok hcl hA (by show A.n ≤ 4096; omega)
  rw [← hAn]
  refine h.mono ?_
  rintro e w' ⟨vg, vs, gs, cs, rfl, hg, hs, hp, hw, hc, hch⟩
  have hinj : ∀ u v, u < A.n → v < A.n → ss.getD u [] = ss.getD v [] → u = v := fun u v hu hv he => by
    rw [hAn] at hu hv
    rw [List.getD_eq_getElem?_getD, List.getD_eq_getElem?_getD, List.getElem?_eq_getElem hu, List.getElem?_eq_getElem hv] at he
    exact nodup_inj hnd hu hv he
  have hlen := length_le_of_nodup A.n _ hc.1 (fun v hv => (hc.2.1 v).1 hv)
  have hgl := grps_le ⟨A, w.heap.size, .slice an A.n cn, .map (some b), bn, cn, fun v => ss.getD v []⟩ cs
  have hpl := hp.length_eq
  refine ⟨vg, vs, gs, _, rfl, hg, hs, ?_, ?_, by omega, hch⟩
  · rw [← hAn]
    exact groups_of_comps hinj hc.1 hc.2.1 hc.2.2 hp hw
  · rw [← hAn]
    have := self_of_comps (name := fun v => ss.getD v []) (n := A.n) hc.1 hc.2.1 (isSelf A) (ss := ((selfsOf ⟨A, w.heap.size, .slice an A.n cn, .map (some b), bn, cn, fun v => ss.getD v []⟩ cs).mergeSort leB)) rfl
    obtain ⟨l, h1, h2, h3⟩ := this
    refine ⟨l, h1, fun v => ?_, h3⟩
    rw [h2]
    simp [isSelf]
end Go.Proofs.Qxb6616078a
