/- cycles$1: what is done with the members of a component. -/
import Derived.Test.Qxb6616078aFCore
import Derived.Deep.LoopGhost
import Derived.Deep.CutBlock
import Derived.Deep.DeepCutAuto
import Derived.Deep.Light
import Derived.Deep.RegionWith
import Derived.Deep.RegionLaw
namespace Go.Proofs.Qxb6616078a
open Go.RowKit Tj

theorem contains_nat (l : List Nat) (v : Nat) : (l.map fun x : Nat => (x : Int)).contains (v : Int) = l.contains v := by
  rw [Bool.eq_iff_iff]
  simp only [List.contains_eq_mem, List.mem_map, decide_eq_true_eq]
  constructor
  · rintro ⟨a, ha, e⟩
    have e' : a = v := by omega
    exact e' ▸ ha
  · exact fun h => ⟨v, h, rfl⟩

theorem contains_any (A : Adj) (N0 : Nat) (hok : A.Ok) (w : World) (hA : A.At w N0) (v : Nat) (hv : v < A.n) (a : Option Addr) (c : Nat) (h : A.st (v + 1) - A.st v = 0 ∨ a = some ⟨A.bl, A.st v, none⟩) :
    Calls Try.prog 42 #[.slice a (A.st (v + 1) - A.st v) c, .int .i64 v] w fun e w' => e = .returned (.bool ((A.adj v).contains v)) ∧ w' = w := by
  by_cases h0 : A.st (v + 1) - A.st v = 0
  · rw [h0]
    have e : A.adj v = [] := List.eq_nil_of_length_eq_zero (by rw [A.adj_length, h0])
    rw [e]
    exact Try.slices_Contains_int_empty a c v w
  · rcases h with h | rfl
    · exact absurd h h0
    · have hl : ((A.adj v).map fun x : Nat => (x : Int)).length = A.st (v + 1) - A.st v := by rw [List.length_map, A.adj_length]
      have := Try.slices_Contains_int A.bl (A.st v) (A.st (v + 1) - A.st v) c ((A.adj v).map fun x : Nat => (x : Int)) v w (by omega) (by have := hA.st0 (v + 1); omega) (by
        intro j hj
        have ht := hok.top (v + 1) (by omega)
        rw [hA.lc (A.st v + j) (by omega)]
        simp only [List.getD_eq_getElem?_getD, List.getElem?_map]
        have hj' : j < A.st (v + 1) - A.st v := by omega
        simp [Adj.adj, hj'])
      rw [List.take_of_length_le (by omega), contains_nat] at this
      exact this

theorem info9 : (Try.prog.info? 9).map (fun i => (i.zero, i.size, i.bytes)) = some (some (.string ByteArray.empty), 1, 16) := by kernel_rfl
theorem info22 : (Try.prog.info? 22).map (fun i => (i.zero, i.size, i.bytes)) = some (some (.slice none 0 0), 1, 24) := by kernel_rfl

/-- append(s, u) as an equation. -/
theorem run_push {P : Program} {w W : World} (base : Nat) (t ty e : TypeId) {z : Value} {bytes : Nat} (ht : P.underlying t = some (.slice e)) (hinfo : (P.info? e).map (fun i => (i.zero, i.size, i.bytes)) = some (some z, 1, bytes)) (hz : z.cells.size = 1) (v : Value) (n : Nat) (xs : List Value) (hown : w.ownsRow base e 1 v n xs) (u : Value) (hu : u.oneCell' = true)
    (g : Nat) (hW : Chg (fun _ => False) w W) (hcell : W.cell? ⟨g, 0, none⟩ = some u) (hn : n ≤ 1048576) (hb : bytes ≤ 64) (hbase : base ≤ w.heap.size) :
    ∃ g' cap w', (Builtin.append_ #[t, t] ty #[v, .slice (some ⟨g, 0, none⟩) 1 1]).run P W = .ok (.slice (some ⟨g', 0, none⟩) (n + 1) cap) w' ∧ w'.ownsRow base e 1 (.slice (some ⟨g', 0, none⟩) (n + 1) cap) (n + 1) (xs ++ [u]) ∧ Chg (fun k => v.ownBlock = some k) w w' ∧ (v.ownBlock = some g' ∨ w.heap.size ≤ g') := by
  obtain ⟨i0, hi, hz0, hz1, hz2⟩ := info_parts hinfo
  obtain ⟨v', w', hrun, h1, h2, _, h4⟩ := run_append_own_at (P := P) W base t ty e i0 z 1 bytes ht hi hz0 hz1 hz2 hz (by decide) v n xs (Row.chg hown hW (fun _ _ h => h)) ⟨g, 0, none⟩ 1 1 [u] rfl (by
      intro j y hy
      have hj : j = 0 := by
        have := (List.getElem?_eq_some_iff.1 hy).1
        simpa using this
      subst hj
      simp at hy
      subst hy
      exact hcell) (by
      intro y hy
      simp at hy
      subst hy
      exact hu) (by unfold maxLen; omega) (by
      have : (n + 1) * bytes ≤ 1048577 * 64 := Nat.mul_le_mul (by omega) hb
      omega) (Nat.le_trans hbase hW.size)
  have hsz := hW.size
  rcases Row.look h1 with ⟨_, h, _⟩ | ⟨g', cap, hv, hb, _⟩
  · omega
  · subst hv
    refine ⟨g', cap, w', hrun, h1, ((hW.mono (fun _ h => h.elim)).trans (Chg.grown h2) (fun b hb => .inl hb.symm)), ?_⟩
    rcases h4 with h4 | h4
    · exact .inl h4.symm
    · right
      have e : g' = W.heap.size := by simpa [Value.ownBlock] using h4
      omega

theorem made_one22 (v : Value) (h : v.cells = #[v]) (n : Nat) : madeCells v.cells n = (List.replicate n v).toArray := by
  unfold madeCells
  rw [h]
  apply Array.ext
  · simp
  · intro i h1 h2
    have : i % 1 = 0 := Nat.mod_one i
    simp [this]
theorem make22 (n : Nat) (h : n ≤ 1048577) (w : World) : (Instr.makeSlice 22 (.int .i64 n) (.int .i64 n)).run Try.prog w = .ok (.slice (some ⟨w.heap.size, 0, none⟩) n n) (w.alloc (.cells (List.replicate n (encStr [])).toArray 9)) := by
  obtain ⟨i0, hi, hz0, hz1, hz2⟩ := info_parts info9
  have := run_make (P := Try.prog) w 22 9 i0 _ Try.underlying22 hi hz0 .i64 .i64 n n (by omega) (by omega) (by rw [hz2]; omega) (by omega)
  rw [hz1, Int.toNat_natCast, Nat.mul_one, made_one22 _ rfl] at this
  exact this

/-- An append whose run is told by an equation, as one step of a region that draws. -/
theorem step_run {P : Program} {ops : Array Oper} {o : Oper} {a : Act} {w : World} {K : Act → World → Prop} {Q : Exit → Act → World → Prop} {E : Prop}
    (hg : o.guard = none) (s x : Operand) (t : TypeId) (hop : o.op = Op.call { callee := Callee.builtin Builtin.append, args := #[s, x], argTypes := #[t, t] }) (v xv v' : Value) (w' : World) (hs : a.eval s = v) (hx : a.eval x = xv)
    (hrun : (Builtin.append_ #[t, t] o.type #[v, xv]).run P w = .ok v' w') (hK : K (a.put o.dst v') w') :
    if Region.wanted o (yielded ops a.tmps) = true then Oper.wp P o a w K Q else E := by
  have hw : Region.wanted o (yielded ops a.tmps) = true := by simp [Region.wanted, hg]
  rw [if_pos hw]
  unfold Oper.wp
  simp [execOp, hop, resolve, invoke, builtin, hs, hx, hrun, Result.andThen]
  exact hK

def isSelf (A : Adj) (v : Nat) : Bool := (A.adj v).contains v

theorem string_one (s : List UInt8) : (encStr s).oneCell' = true := rfl

/-- The state inside the closure: as FCore, told against the world at its start. -/
structure FIn (X : XP) (W : World) (vself0 vgroups0 : Value) (hdrs0 : List Value) (w : World) (vself vgroups : Value) (hdrs : List Value) (selfs : List (List UInt8)) (grps : List (List (List UInt8))) : Prop where
  core : FCore X w vself vgroups hdrs selfs grps
  chg : Chg (X.Dom vself0 vgroups0 hdrs0) W w
  dom : ∀ k, X.Dom vself vgroups hdrs k → X.Dom vself0 vgroups0 hdrs0 k ∨ W.heap.size ≤ k

theorem FIn.same {X : XP} {W : World} {vself0 vgroups0 : Value} {hdrs0 : List Value} {w : World} {vself vgroups : Value} {hdrs : List Value} {selfs : List (List UInt8)} {grps : List (List (List UInt8))} (h : FIn X W vself0 vgroups0 hdrs0 w vself vgroups hdrs selfs grps) {w' : World} (hc : Chg (fun _ => False) w w') : FIn X W vself0 vgroups0 hdrs0 w' vself vgroups hdrs selfs grps :=
  ⟨h.core.chg hc (fun _ h => h.elim), h.chg.trans hc (fun _ h => h.elim), h.dom⟩

theorem FIn.chgd {X : XP} {W : World} {vself0 vgroups0 : Value} {hdrs0 : List Value} {w : World} {vself vgroups : Value} {hdrs : List Value} {selfs : List (List UInt8)} {grps : List (List (List UInt8))} (h : FIn X W vself0 vgroups0 hdrs0 w vself vgroups hdrs selfs grps) {G : Nat → Prop} {w' : World} (hc : Chg G w w') (hG : ∀ k, G k → X.b0 + 1 ≤ k ∧ ¬ X.Dom vself vgroups hdrs k ∧ W.heap.size ≤ k) : FIn X W vself0 vgroups0 hdrs0 w' vself vgroups hdrs selfs grps :=
  ⟨h.core.chg hc (fun k hk => ⟨(hG k hk).1, (hG k hk).2.1⟩), h.chg.trans hc (fun k hk => .inr (hG k hk).2.2), h.dom⟩

theorem FIn.pushSelf {X : XP} {W : World} {vself0 vgroups0 : Value} {hdrs0 : List Value} {w : World} {vself vgroups : Value} {hdrs : List Value} {selfs : List (List UInt8)} {grps : List (List (List UInt8))} (h : FIn X W vself0 vgroups0 hdrs0 w vself vgroups hdrs selfs grps)
    {w4 : World} {g' cap' : Nat} {s : List UInt8} (hc : Chg (fun k => vself.ownBlock = some k) w w4) (hr : w4.ownsRow (X.b0 + 3) 9 1 (.slice (some ⟨g', 0, none⟩) (selfs.length + 1) cap') (selfs.length + 1) (selfs.map encStr ++ [encStr s])) (hg : vself.ownBlock = some g' ∨ w.heap.size ≤ g') :
    FIn X W vself0 vgroups0 hdrs0 (w4.setCell ⟨X.b0 + 2, 0, none⟩ (.slice (some ⟨g', 0, none⟩) (selfs.length + 1) cap')) (.slice (some ⟨g', 0, none⟩) (selfs.length + 1) cap') vgroups hdrs (selfs ++ [s]) grps := by
  refine ⟨h.core.pushSelf hc hr hg, ?_, ?_⟩
  · refine (h.chg.trans hc (fun b hb => h.dom b (.inr (.inr (.inl hb))))).trans (Chg.setCell w4 ⟨X.b0 + 2, 0, none⟩ _) (fun b hb => .inl (.inr (.inl (by simpa using hb))))
  · rintro k (hk | hk | hk | hk | hk)
    · exact .inl (.inl hk)
    · exact .inl (.inr (.inl hk))
    · have e : g' = k := by simpa [Value.ownBlock] using hk
      subst e
      rcases hg with hg | hg
      · exact h.dom g' (.inr (.inr (.inl hg)))
      · exact .inr (Nat.le_trans h.chg.size hg)
    · exact h.dom k (.inr (.inr (.inr (.inl hk))))
    · exact h.dom k (.inr (.inr (.inr (.inr hk))))

theorem FIn.pushGroup {X : XP} {W : World} {vself0 vgroups0 : Value} {hdrs0 : List Value} {w : World} {vself vgroups : Value} {hdrs : List Value} {selfs : List (List UInt8)} {grps : List (List (List UInt8))} (h : FIn X W vself0 vgroups0 hdrs0 w vself vgroups hdrs selfs grps)
    {w4 : World} {g' cap' : Nat} {g : List (List UInt8)} {b cb : Nat} (hnew : w.ownsRow (X.b0 + 3) 9 1 (.slice (some ⟨b, 0, none⟩) g.length cb) g.length (g.map encStr)) (hnd : ¬ X.Dom vself vgroups hdrs b) (hbW : W.heap.size ≤ b)
    (hc : Chg (fun k => vgroups.ownBlock = some k) w w4) (hr : w4.ownsRow (X.b0 + 3) 22 1 (.slice (some ⟨g', 0, none⟩) (hdrs.length + 1) cap') (hdrs.length + 1) (hdrs ++ [.slice (some ⟨b, 0, none⟩) g.length cb])) (hg : vgroups.ownBlock = some g' ∨ w.heap.size ≤ g') :
    FIn X W vself0 vgroups0 hdrs0 (w4.setCell ⟨X.b0 + 1, 0, none⟩ (.slice (some ⟨g', 0, none⟩) (hdrs.length + 1) cap')) vself (.slice (some ⟨g', 0, none⟩) (hdrs.length + 1) cap') (hdrs ++ [.slice (some ⟨b, 0, none⟩) g.length cb]) selfs (grps ++ [g]) := by
  refine ⟨h.core.pushGroup hnew hnd hc hr hg, ?_, ?_⟩
  · refine (h.chg.trans hc (fun b hb => h.dom b (.inr (.inr (.inr (.inl hb)))))).trans (Chg.setCell w4 ⟨X.b0 + 1, 0, none⟩ _) (fun b hb => .inl (.inl (by simpa using hb)))
  · rintro k (hk | hk | hk | hk | ⟨x, hx, hk⟩)
    · exact .inl (.inl hk)
    · exact .inl (.inr (.inl hk))
    · exact h.dom k (.inr (.inr (.inl hk)))
    · have e : g' = k := by simpa [Value.ownBlock] using hk
      subst e
      rcases hg with hg | hg
      · exact h.dom g' (.inr (.inr (.inr (.inl hg))))
      · exact .inr (Nat.le_trans h.chg.size hg)
    · rcases List.mem_append.1 hx with hx | hx
      · exact h.dom k (.inr (.inr (.inr (.inr ⟨x, hx, hk⟩))))
      · simp at hx
        subst hx
        have e : b = k := by simpa [Value.ownBlock] using hk
        subst e
        exact .inr hbW

set_option maxHeartbeats 2000000 in
set_option maxRecDepth 100000 in
theorem found_any (X : XP) (hok : X.A.Ok) (hcl : X.A.st X.A.n ≤ X.A.cl) (w : World) (vself vgroups : Value) (hdrs : List Value) (selfs : List (List UInt8)) (grps : List (List (List UInt8))) (h : FCore X w vself vgroups hdrs selfs grps)
    (g i m c : Nat) (ms : List Nat) (hm : ms.length = m) (hm1 : 1 ≤ m) (hm2 : m ≤ 1048576) (hcells : ∀ j x, ms[j]? = some x → w.cell? ⟨g, i + j, none⟩ = some (.int .i64 (x : Nat))) (hgd : ¬ X.Dom vself vgroups hdrs g) (hlt : ∀ x ∈ ms, x < X.A.n) (hsl : selfs.length + m ≤ 1048576) (hgl : hdrs.length ≤ 1048576) :
    Calls Try.prog 41 #[.slice (some ⟨g, i, none⟩) m c, .pointer (some ⟨X.b0, 0, none⟩), .pointer (some ⟨X.b0 + 2, 0, none⟩), .pointer (some ⟨X.b0 + 1, 0, none⟩)] w
      fun e w' => e = .returned (.tuple #[]) ∧ ∃ vself' vgroups' hdrs', FIn X w vself vgroups hdrs w' vself' vgroups' hdrs' (selfs ++ (ms.filter (isSelf X.A)).map X.nm) (if 1 < m then grps ++ [(ms.map X.nm).mergeSort leB] else grps) := by
  have H0 : Hid (FIn X w vself vgroups hdrs w vself vgroups hdrs selfs grps) := ⟨h, Chg.refl _ _, fun k hk => .inl hk⟩
  have HOk : Hid X.A.Ok := hok
  have HC : Hid (∀ j x, ms[j]? = some x → w.cell? ⟨g, i + j, none⟩ = some (.int .i64 (x : Nat))) := hcells
  have HGD : Hid (¬ X.Dom vself vgroups hdrs g) := hgd
  have HLt : Hid (∀ x ∈ ms, x < X.A.n) := hlt
  clear h hok hcells hgd hlt
  go_enter Try.func41, Try.ntmps41
  go_upto_block 0 with (fail)
  go_cut [12] (fun _ wc => ∃ vself', Hid (FIn X w vself vgroups hdrs wc vself' vgroups hdrs (selfs ++ (ms.filter (isSelf X.A)).map X.nm) grps))
  case first =>
    go_wp2
    go_loopg [12] m (fun gh s wi => ∃ (k : Nat) (vself' : Value), k ≤ m ∧ gh = m - k ∧ s = .int .i64 k ∧ Hid (FIn X w vself vgroups hdrs wi vself' vgroups hdrs (selfs ++ ((ms.take k).filter (isSelf X.A)).map X.nm) grps))
    case atStart => exact ⟨0, vself, Nat.zero_le _, rfl, rfl, (by simpa using H0.out : FIn X w vself vgroups hdrs w vself vgroups hdrs (selfs ++ ((ms.take 0).filter (isSelf X.A)).map X.nm) grps)⟩
    case round =>
      obtain ⟨k, vs1, hk, rfl, rfl, H1⟩ := hrel
      clear H0
      by_cases hkm : k < m
      · have hkz : (k : Int) < (m : Int) := by omega
        obtain ⟨x, hx⟩ : ∃ x, ms[k]? = some x := ⟨_, List.getElem?_eq_getElem (by omega)⟩
        have hxn : x < X.A.n := HLt.out x (List.mem_of_getElem? hx)
        have d1 : wr.cell? ⟨g, i + k, none⟩ = some (.int .i64 x) := H1.out.chg.cell (HC.out k x hx) HGD.out
        have d2 := H1.out.core.xB.cell (i := 2) rfl
        have d3 := H1.out.core.xB.cell (i := 3) rfl
        have HT : Hid (((ms.take (k + 1)).filter (isSelf X.A)) = (ms.take k).filter (isSelf X.A) ++ if isSelf X.A x then [x] else []) := by
          show _ = _
          rw [List.take_add_one, hx, List.filter_append]
          simp [List.filter_cons]
        have HA1 : Hid (X.A.At wr (X.b0 + 1)) := H1.out.core.adj
        have ofc := of_any X.A (X.b0 + 1) HOk.out hcl wr HA1.out x hxn
        unfold Adj.sv at d2
        unfold Adj.lv at d3
        unfold Adj.sv Adj.lv at ofc
        have HOf : Hid (Calls Try.prog 43 #[.agg #[.slice (some ⟨X.A.bs, 0, none⟩) (X.A.n + 1) X.A.cs, .slice (some ⟨X.A.bl, 0, none⟩) (X.A.st X.A.n) X.A.cl], .int .i64 x] wr fun e w' => OfRes X.A x e wr w') := ofc
        clear hx ofc
        go_upto_if 21 with (first | (go_at_call 43; refine HOf.out.mono ?_; rintro e w1 ⟨a1, c1, rfl, ha1, hc1⟩; have HA2 : Hid (X.A.At w1 (X.b0 + 1)) := HA1.out.chg hc1 (fun _ h => h.elim); have HF2 := H1.out.same hc1; have HF2 : Hid (FIn X w vself vgroups hdrs w1 vs1 vgroups hdrs (selfs ++ ((ms.take k).filter (isSelf X.A)).map X.nm) grps) := HF2; have Ha1 : Hid (X.A.st (x + 1) - X.A.st x = 0 ∨ a1 = some ⟨X.A.bl, X.A.st x, none⟩) := ha1; clear ha1 hc1) | (go_at_call 42; refine (contains_any X.A (X.b0 + 1) HOk.out _ HA2.out x hxn _ _ Ha1.out).mono ?_; rintro e w2 ⟨rfl, rfl⟩))
        by_cases hself : x ∈ X.A.adj x
        · obtain ⟨sl, hsl1⟩ : ∃ sl, sl = selfs ++ ((ms.take k).filter (isSelf X.A)).map X.nm := ⟨_, rfl⟩
          have hll : sl.length ≤ 1048576 := by
            rw [hsl1, List.length_append, List.length_map]
            have := List.length_filter_le (isSelf X.A) (ms.take k)
            have := List.length_take_le k ms
            omega
          have HF3 : Hid (FIn X w vself vgroups hdrs w2 vs1 vgroups hdrs sl grps) := hsl1 ▸ HF2.out
          have HNew : Hid (selfs ++ ((ms.take (k + 1)).filter (isSelf X.A)).map X.nm = sl ++ [X.nm x]) := by
            show _ = _
            rw [HT.out, if_pos (by simpa [isSelf] using hself), hsl1]
            simp
          clear hsl1 d1 d2 d3
          obtain ⟨g', cap', w4, hrun, hr, hc, hg⟩ := run_push (P := Try.prog) (w := w2) (W := (w2.alloc (.cells #[encStr (X.nm x)] 9)).drew) (X.b0 + 3) 22 22 9 Try.underlying22 info9 rfl vs1 sl.length _ HF3.out.core.sR (encStr (X.nm x)) rfl w2.heap.size (Chg.allocd _ _) (cell_allocd _ _ _) hll (by decide) (by have := HF3.out.core.sB.lt; omega)
          have HPush : Hid (FIn X w vself vgroups hdrs (w4.setCell ⟨X.b0 + 2, 0, none⟩ (.slice (some ⟨g', 0, none⟩) (sl.length + 1) cap')) (.slice (some ⟨g', 0, none⟩) (sl.length + 1) cap') vgroups hdrs (sl ++ [X.nm x]) grps) := HF3.out.pushSelf hc hr hg
          have hn0 : X.nv = .slice (some ⟨X.bn, 0, none⟩) X.A.n X.cn := by
            rcases HF3.out.core.nE with h | h
            · omega
            · exact h
          have d4 := HF3.out.core.sB.cell (i := 0) rfl
          have d5 := HF3.out.core.xB.cell (i := 0) rfl
          rw [hn0] at d5
          have d6 := HF3.out.core.nC x hxn
          have hob : vs1.ownBlock ≠ some (X.b0 + 2) := fun e => by have := (own_ge HF3.out.core.sR e).1; omega
          have d7 := (HF3.out.core.sB.chg hc hob).cell (i := 0) rfl
          have f7 := (HF3.out.core.sB.chg hc hob).free 0
          have hnx := HF3.out.core.adj.n0
          have hs2 := HF3.out.core.sB.lt
          have hnl := HF3.out.core.nL
          clear hr hc hg hob hn0
          have HRun : Hid ((Builtin.append_ #[22, 22] 22 #[vs1, .slice (some ⟨w2.heap.size, 0, none⟩) 1 1]).run Try.prog (w2.alloc (.cells #[encStr (X.nm x)] 9)).drew = .ok (.slice (some ⟨g', 0, none⟩) (sl.length + 1) cap') w4) := hrun
          clear hrun
          go_wp2
          go_region_law (refine step_run rfl (.tmp 22) (.tmp 28) 22 rfl vs1 (.slice (some ⟨w2.heap.size, 0, none⟩) 1 1) _ _ (by simp [Act.eval]) (by simp [Act.eval]) HRun.out ?_)
          all_goals
            go_wp2
            go_roundg (m - (k + 1))
            case measure => go_light; omega
            case rel =>
              refine ⟨k + 1, .slice (some ⟨g', 0, none⟩) (sl.length + 1) cap', by omega, rfl, by go_num, ?_⟩
              rw [HNew.out]
              exact HPush.out
        · have HSame : Hid (selfs ++ ((ms.take (k + 1)).filter (isSelf X.A)).map X.nm = selfs ++ ((ms.take k).filter (isSelf X.A)).map X.nm) := by
            show _ = _
            rw [HT.out, if_neg (by simpa [isSelf] using hself)]
            simp
          go_wp2
          go_roundg (m - (k + 1))
          case measure => go_light; omega
          case rel =>
            refine ⟨k + 1, vs1, by omega, rfl, by go_num, ?_⟩
            rw [HSame.out]
            exact HF2.out
      · have e : k = m := by omega
        subst e
        go_wp2
        go_meet
        case rel =>
          have h1 := H1.out
          rw [List.take_of_length_le (by omega)] at h1
          exact ⟨vs1, h1⟩
  case rest =>
    obtain ⟨vs2, H2⟩ := hcut
    clear H0
    obtain ⟨sl, hsl1⟩ : ∃ sl, sl = selfs ++ (ms.filter (isSelf X.A)).map X.nm := ⟨_, rfl⟩
    rw [← hsl1] at H2
    have HSL : Hid (sl = selfs ++ (ms.filter (isSelf X.A)).map X.nm) := hsl1
    clear hsl1
    by_cases hm3 : 1 < m
    · have hmz : (1 : Int) < (m : Int) := by omega
      have m1 := make22 m (by omega)
      go_upto_block 2 with (fail)
      have hbb : X.b0 + 2 < wc.heap.size := H2.out.core.sB.lt
      have HND : Hid (¬ X.Dom vs2 vgroups hdrs wc.heap.size) := fun hd => by have := (H2.out.core.lt hd).1; omega
      have hW : w.heap.size ≤ wc.heap.size := H2.out.chg.size
      have HS0 : Hid (Blk (wc.alloc (.cells (Array.replicate m (encStr [])) 9)) wc.heap.size ((List.replicate m ([] : List UInt8)).map encStr) 9) := by
        have := Blk.new wc ((List.replicate m ([] : List UInt8)).map encStr) 9
        exact (by simpa using this : Blk (wc.alloc (.cells (Array.replicate m (encStr [])) 9)) wc.heap.size ((List.replicate m ([] : List UInt8)).map encStr) 9)
      have HS1 : Hid (FIn X w vself vgroups hdrs (wc.alloc (.cells (Array.replicate m (encStr [])) 9)) vs2 vgroups hdrs sl grps) := H2.out.same (Chg.alloc _ _ _)
      obtain ⟨bb, hbe⟩ : ∃ bb, bb = wc.heap.size := ⟨_, rfl⟩
      rw [← hbe] at HND HS0 hbb hW
      rw [← hbe]
      go_cut [39] (fun _ wd => Hid (Blk wd bb ((ms.map X.nm).map encStr) 9 ∧ FIn X w vself vgroups hdrs wd vs2 vgroups hdrs sl grps))
      case first =>
        clear hbe m1
        go_wp2
        go_loopg [39] m (fun gh s wi => ∃ (k : Nat) (ls : List (List UInt8)), k ≤ m ∧ gh = m - k ∧ s = .int .i64 k ∧ Hid (Blk wi bb (ls.map encStr) 9 ∧ FIn X w vself vgroups hdrs wi vs2 vgroups hdrs sl grps ∧ ls.length = m ∧ ls.take k = (ms.take k).map X.nm))
        case atStart => exact ⟨0, List.replicate m [], Nat.zero_le _, rfl, rfl, HS0.out, HS1.out, by simp, rfl⟩
        case round =>
          obtain ⟨k, ls, hk, rfl, rfl, HL⟩ := hrel
          clear HS0 HS1
          by_cases hkm : k < m
          · have hkz : (k : Int) < (m : Int) := by omega
            obtain ⟨x, hx⟩ : ∃ x, ms[k]? = some x := ⟨_, List.getElem?_eq_getElem (by omega)⟩
            have hxn : x < X.A.n := HLt.out x (List.mem_of_getElem? hx)
            have d1 : wr.cell? ⟨g, i + k, none⟩ = some (.int .i64 x) := HL.out.2.1.chg.cell (HC.out k x hx) HGD.out
            have d5 := HL.out.2.1.core.xB.cell (i := 0) rfl
            have hn0 : X.nv = .slice (some ⟨X.bn, 0, none⟩) X.A.n X.cn := by
              rcases HL.out.2.1.core.nE with h | h
              · omega
              · exact h
            rw [hn0] at d5
            have d6 := HL.out.2.1.core.nC x hxn
            obtain ⟨y, hy⟩ : ∃ y, (ls.map encStr)[k]? = some y := ⟨_, List.getElem?_eq_getElem (by rw [List.length_map]; have := HL.out.2.2.1; omega)⟩
            have d7 := HL.out.1.cell hy
            have f7 := HL.out.1.free k
            have hnx := HL.out.2.1.core.adj.n0
            have HN : Hid (Blk (wr.setCell ⟨bb, k, none⟩ (encStr (X.nm x))) bb ((ls.set k (X.nm x)).map encStr) 9) := by
              have := HL.out.1.set k (encStr (X.nm x))
              exact (by rw [List.map_set]; exact this : Blk (wr.setCell ⟨bb, k, none⟩ (encStr (X.nm x))) bb ((ls.set k (X.nm x)).map encStr) 9)
            have HN2 : Hid (FIn X w vself vgroups hdrs (wr.setCell ⟨bb, k, none⟩ (encStr (X.nm x))) vs2 vgroups hdrs sl grps) := HL.out.2.1.chgd (Chg.setCell wr ⟨bb, k, none⟩ _) (fun q hq => by
              have e : q = bb := hq
              subst e
              exact ⟨by omega, HND.out, hW⟩)
            have HN3 : Hid ((ls.set k (X.nm x)).take (k + 1) = (ms.take (k + 1)).map X.nm) := by
              show _ = _
              rw [List.take_add_one, List.take_set_of_le (by omega), HL.out.2.2.2, List.take_add_one, hx]
              have := HL.out.2.2.1
              simp [show k < ls.length by omega]
            have HN4 : Hid (ls.length = m) := HL.out.2.2.1
            clear hx hy hn0
            go_wp2
            go_roundg (m - (k + 1))
            case measure => go_light; omega
            case rel => exact ⟨k + 1, ls.set k (X.nm x), by omega, rfl, by go_num, HN.out, HN2.out, by rw [List.length_set]; exact HN4.out, HN3.out⟩
          · have e : k = m := by omega
            subst e
            have HE : Hid (ls = ms.map X.nm) := by
              have h1 := HL.out.2.2.2
              rw [List.take_of_length_le (by have := HL.out.2.2.1; omega), List.take_of_length_le (by omega)] at h1
              exact h1
            go_wp2
            go_meet
            case rel => exact ⟨by rw [← HE.out]; exact HL.out.1, HL.out.2.1⟩
      case rest =>
        have H3 := hcut
        clear hcut HS0 HS1 H2 m1 hbe
        have hmm : (ms.map X.nm).length = m := by simp [hm]
        have hlt3 : bb < wc.heap.size := H3.out.1.lt
        have hcon := Try.slices_Sort_string bb 0 m (ms.map X.nm) wc (holds_of_block H3.out.1 (by rw [hmm]; exact List.take_of_length_le (by simp [hm]))) hlt3 (by omega)
        rw [hmm] at hcon
        have HCon : Hid (Calls Try.prog 44 #[.slice (some ⟨bb, 0, none⟩) m m] wc fun e w' => e = .returned (.tuple #[]) ∧ ∃ n os, w' = Go.Sort.grow (Go.Sort.putRow encStr (Go.Sort.ahead wc n) bb 0 ((ms.map X.nm).mergeSort leB).toArray) os) := hcon
        have HAfter : Hid (∀ n os w5, w5 = Go.Sort.grow (Go.Sort.putRow encStr (Go.Sort.ahead wc n) bb 0 ((ms.map X.nm).mergeSort leB).toArray) os → w5.ownsRow (X.b0 + 3) 9 1 (.slice (some ⟨bb, 0, none⟩) m m) m (((ms.map X.nm).mergeSort leB).map encStr) ∧ FIn X w vself vgroups hdrs w5 vs2 vgroups hdrs sl grps) := by
          rintro n os w5 rfl
          constructor
          · have := ownsRow_sorted (base := X.b0 + 3) (cap := m) (n := n) (os := os) (ss := ms.map X.nm) (ts := (ms.map X.nm).mergeSort leB) (by simp) (by omega) H3.out.1 (by omega) (by unfold maxLen; omega) (by simp [hm])
            rw [hmm] at this
            exact this
          · exact H3.out.2.chgd (Chg.grown (grownBy_sorted _)) (fun q hq => by
              have e : q = bb := by injection hq
              subst e
              exact ⟨by omega, HND.out, hW⟩)
        clear hcon
        go_wp2_with (first | (go_at_call 44; refine HCon.out.mono ?_; rintro e w5 ⟨rfl, n5, os5, hw5⟩; have HR5 : Hid (w5.ownsRow (X.b0 + 3) 9 1 (.slice (some ⟨bb, 0, none⟩) m m) m (((ms.map X.nm).mergeSort leB).map encStr)) := (HAfter.out n5 os5 w5 hw5).1; have HF5 : Hid (FIn X w vself vgroups hdrs w5 vs2 vgroups hdrs sl grps) := (HAfter.out n5 os5 w5 hw5).2; clear hw5; have d8 := HF5.out.core.gB.cell (i := 0) rfl) | (at_builtin; refine stopHere ?_))
        change wpList _ _ _ _ _ _
        refine wp_push (w := w5) ?hg1 (.tmp 55) (.tmp 57) 30 ?hop1 (X.b0 + 3) 22 Try.underlying30 info22 rfl vgroups hdrs.length hdrs ?hs1 HF5.out.core.gR (.slice (some ⟨bb, 0, none⟩) m m) rfl w5.heap.size ?hx1 (Chg.alloc _ _ _) (cell_alloc1 _ _ _) hgl (by decide) (by have := HF5.out.core.sB.lt; omega) ?_
        case hg1 => rfl
        case hop1 => rfl
        case hs1 => rfl
        case hx1 => rfl
        intro g' cap' w6 hr6 hc6 hg6 hb6
        have hlen : ((ms.map X.nm).mergeSort leB).length = m := by rw [List.length_mergeSort]; exact hmm
        have hP := HF5.out.pushGroup (g := (ms.map X.nm).mergeSort leB) (b := bb) (cb := m) (by rw [hlen]; exact HR5.out) HND.out hW hc6 (by rw [hlen]; exact hr6) hg6
        rw [hlen] at hP
        have HP : Hid (FIn X w vself vgroups hdrs (w6.setCell ⟨X.b0 + 1, 0, none⟩ (.slice (some ⟨g', 0, none⟩) (hdrs.length + 1) cap')) vs2 (.slice (some ⟨g', 0, none⟩) (hdrs.length + 1) cap') (hdrs ++ [.slice (some ⟨bb, 0, none⟩) m m]) sl (grps ++ [(ms.map X.nm).mergeSort leB])) := hP
        have hob : vgroups.ownBlock ≠ some (X.b0 + 1) := fun e => by have := (own_ge HF5.out.core.gR e).1; omega
        have d9 := (HF5.out.core.gB.chg hc6 hob).cell (i := 0) rfl
        have f9 := (HF5.out.core.gB.chg hc6 hob).free 0
        clear hr6 hc6 hg6 hb6 hP hlen hob
        go_wp2
        go_end0
        exact ⟨rfl, vs2, _, _, by rw [← HSL.out]; first | exact HP.out | (rw [if_pos hm3]; exact HP.out)⟩
    · have hmz : ¬ ((1 : Int) < (m : Int)) := by omega
      go_wp2
      go_end0
      exact ⟨rfl, vs2, vgroups, hdrs, by rw [← HSL.out]; first | exact H2.out | (rw [if_neg hm3]; exact H2.out)⟩
end Go.Proofs.Qxb6616078a
