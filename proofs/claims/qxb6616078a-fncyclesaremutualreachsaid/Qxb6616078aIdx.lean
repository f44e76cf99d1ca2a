/- indexed. -/
import Derived.Test.Qxb6616078aMaps
import Derived.Test.Qxb6616078aRev
import Derived.Test.Qxb6616078aComp
import Derived.BigRegion
import Derived.Laws.Rows
namespace Go.Proofs.Qxb6616078a
open Go.RowKit Tj

/-- How many edges the first j vertices have. -/
def sumTo (ds : List (List Nat)) (j : Nat) : Nat := ((ds.take j).map List.length).sum
theorem sumTo_succ {ds : List (List Nat)} {j : Nat} {d : List Nat} (h : ds[j]? = some d) : sumTo ds (j + 1) = sumTo ds j + d.length := by
  unfold sumTo
  rw [List.take_add_one, h]
  simp
theorem sumTo_mono (ds : List (List Nat)) (j : Nat) : sumTo ds j ≤ sumTo ds (j + 1) := by
  cases h : ds[j]? with
  | none =>
    have : ds.length ≤ j := List.getElem?_eq_none_iff.1 h
    unfold sumTo
    rw [List.take_of_length_le this, List.take_of_length_le (by omega)]
    exact Nat.le_refl _
  | some d => rw [sumTo_succ h]; omega
theorem sumTo_le (ds : List (List Nat)) {i j : Nat} (h : i ≤ j) : sumTo ds i ≤ sumTo ds j := by
  induction j with
  | zero => have : i = 0 := by omega
            subst this; exact Nat.le_refl _
  | succ j ih =>
    by_cases e : i = j + 1
    · subst e; exact Nat.le_refl _
    · exact Nat.le_trans (ih (by omega)) (sumTo_mono ds j)
theorem sumTo_all (ds : List (List Nat)) {j : Nat} (h : ds.length ≤ j) : sumTo ds j = (ds.map List.length).sum := by
  unfold sumTo
  rw [List.take_of_length_le h]
theorem flatten_take_length (ds : List (List Nat)) (j : Nat) : (ds.take j).flatten.length = sumTo ds j := by
  unfold sumTo
  rw [List.length_flatten]

/-- append(s, more...) as an equation: s a row of the call's own, more whatever reads as those numbers. -/
theorem run_extend {w : World} (base g n cap : Nat) (xs : List Value) (hown : w.ownsRow base 3 1 (.slice (some ⟨g, 0, none⟩) n cap) n xs) (a' : Option Addr) (c' : Nat) (d : List Nat) (hd : Sl w (.slice a' d.length c') (nums d)) (hn : n ≤ 1048576) (hl : d.length ≤ 1048576) (hbase : base ≤ w.heap.size) :
    ∃ g' cap' w', (Builtin.append_ #[47, 47] 47 #[.slice (some ⟨g, 0, none⟩) n cap, .slice a' d.length c']).run Try.prog w = .ok (.slice (some ⟨g', 0, none⟩) (n + d.length) cap') w' ∧ w'.ownsRow base 3 1 (.slice (some ⟨g', 0, none⟩) (n + d.length) cap') (n + d.length) (xs ++ nums d) ∧ Chg (fun k => g = k) w w' ∧ (g' = g ∨ w.heap.size ≤ g') := by
  obtain ⟨i0, hi, hz0, hz1, hz2⟩ := info_parts infoS3
  cases a' with
  | none =>
    have e : d = [] := by
      cases d with
      | nil => rfl
      | cons x r =>
        obtain ⟨b, o, h, _⟩ := hd.at (i := 0) (x := .int .i64 x) rfl
        cases h
    subst e
    have hcap : n ≤ cap := by
      rcases Row.look hown with ⟨hv, _⟩ | ⟨g', cap', hv, _, _, hle, _⟩
      · cases hv
      · cases hv; exact hle
    refine ⟨g, cap, w, ?_, by simpa [nums] using hown, Chg.refl _ _, .inl rfl⟩
    simp [Builtin.append_, run_underlying Try.underlying47, sizeOf, typeInfo, hi, Builtin.lenOf, Builtin.firstCells, loadCells, hcap, storeCells]
  | some a =>
    have hsrc : ∀ (j : Nat) (u : Value), (nums d)[j]? = some u → w.cell? (a.add j) = some u := by
      intro j u hu
      obtain ⟨b, o, h, h'⟩ := hd.at hu
      have ea := Option.some.inj h
      subst ea
      by_cases hj : j = 0
      · subst hj; simpa [Addr.add] using h'
      · simpa [Addr.add, hj] using h'
    obtain ⟨v', w', hr, h1, h2, _, h4⟩ := run_append_own_at (P := Try.prog) w base 47 47 3 i0 _ 1 8 Try.underlying47 hi hz0 hz1 hz2 rfl (by decide) _ n xs hown a d.length c' (nums d) (by rw [nums_length]; omega) hsrc (by
      intro u hu
      unfold nums at hu
      obtain ⟨x, _, rfl⟩ := List.mem_map.1 hu
      rfl) (by unfold maxLen; omega) (by omega) hbase
    have hc : Chg (fun k => g = k) w w' := (Chg.grown h2).mono (fun b hb => by
      have e : b = g := by simpa [Value.ownBlock] using hb
      exact .inl e.symm)
    rcases Row.look h1 with ⟨hv, _⟩ | ⟨g', cap', hv, _⟩
    · subst hv
      rcases h4 with h4 | h4 <;> cases h4
    · subst hv
      refine ⟨g', cap', w', hr, h1, hc, ?_⟩
      rcases h4 with h4 | h4
      · left; simpa [Value.ownBlock] using h4
      · right
        have : g' = w.heap.size := by simpa [Value.ownBlock] using h4
        omega

/-- An append whose run is told by an equation. -/
theorem wp_append_run {P : Program} {w : World} {ops : Array Oper} {rest : List Oper} {o : Oper} {a : Act} {Q : Exit → Act → World → Prop} (hgd : o.guard = none) (d s : Operand) (t : TypeId)
    (ho : o.op = .call { callee := .builtin .append, args := #[d, s], argTypes := #[t, t] }) (v u : Value) (hd : a.eval d = v) (hs : a.eval s = u) {v' : Value} {w' : World}
    (hr : (Builtin.append_ #[t, t] o.type #[v, u]).run P w = .ok v' w') (h : wpList P ops Q rest (a.put o.dst v') w') : wpList P ops Q (o :: rest) a w := by
  refine wpList_plain hgd fun K hK => ?_
  unfold Oper.wp execOp
  simp only [ho, resolve, invoke, builtin, Sem.run_bind, Sem.run_pure, Result.andThen_ok, List.map_toArray, List.map_cons, List.map_nil, hd, hs, hr]
  exact hK _ _ h

structure X31 (w : World) (nm mv : Value) (k E : Nat) (R1 R2 : List Value) (bs bl bx : Nat) (wc : World) : Prop where
  s : Blk wc bs R1 3
  l : Blk wc bl R2 3
  x : Blk wc bx [nm, mv, .slice (some ⟨bs, 0, none⟩) (k + 1) (k + 1), .slice (some ⟨bl, 0, none⟩) 0 E] 55
  r : Blk wc w.heap.size [.slice none 0 0, .map none, .slice none 0 0, .slice none 0 0] 55
  ns : w.heap.size < bs
  nl : w.heap.size < bl
  nx : w.heap.size < bx
  ne : bs ≠ bl
  chg : Chg (fun _ => False) w wc

theorem three (wr : World) (o1 o2 o3 : Obj) : (((wr.alloc o1).alloc o2).alloc o3).drew.heap[wr.heap.size]? = some o1 ∧ (((wr.alloc o1).alloc o2).alloc o3).drew.heap[wr.heap.size + 1]? = some o2 ∧ (((wr.alloc o1).alloc o2).alloc o3).drew.heap[wr.heap.size + 1 + 1]? = some o3 ∧ Chg (fun _ => False) wr (((wr.alloc o1).alloc o2).alloc o3).drew := by
  have h := heap_allocs [o1, o2, o3] wr
  refine ⟨h 0 o1 rfl, h 1 o2 rfl, h 2 o3 rfl, ?_⟩
  exact (chg_allocs [o1, o2, o3] wr).trans (Chg.drew (fun _ => False) _) (fun _ h => h.elim)

theorem X31.of {w wr W : World} {nm mv : Value} {k E : Nat} {R1 R2 : List Value} {bs bl bx : Nat} (H : Chg (fun _ => False) w wr ∧ Blk wr w.heap.size [.slice none 0 0, .map none, .slice none 0 0, .slice none 0 0] 55 ∧ wr.heap.size = w.heap.size + 1) (hc : Chg (fun _ => False) wr W)
    (h1 : Blk W bs R1 3) (h2 : Blk W bl R2 3) (h3 : Blk W bx [nm, mv, .slice (some ⟨bs, 0, none⟩) (k + 1) (k + 1), .slice (some ⟨bl, 0, none⟩) 0 E] 55) (b1 : wr.heap.size ≤ bs) (b2 : wr.heap.size ≤ bl) (b3 : wr.heap.size ≤ bx) (hne : bs ≠ bl) : X31 w nm mv k E R1 R2 bs bl bx W where
  s := h1
  l := h2
  x := h3
  r := H.2.1.chg hc (fun h => h)
  ns := by have := H.2.2; omega
  nl := by have := H.2.2; omega
  nx := by have := H.2.2; omega
  ne := hne
  chg := H.1.trans hc (fun _ h => h.elim)

structure Y31 (w : World) (nm mv : Value) (m : Nat) (ds : List (List Nat)) (bs bx : Nat) (wr : World) (v bl cl : Nat) : Prop where
  s : Blk wr bs (numRow (m + 1) (fun j => if j ≤ v then sumTo ds j else 0)) 3
  l : wr.ownsRow (w.heap.size + 1) 3 1 (.slice (some ⟨bl, 0, none⟩) (sumTo ds v) cl) (sumTo ds v) (nums (ds.take v).flatten)
  x : Blk wr bx [nm, mv, .slice (some ⟨bs, 0, none⟩) (m + 1) (m + 1), .slice (some ⟨bl, 0, none⟩) (sumTo ds v) cl] 55
  r : Blk wr w.heap.size [.slice none 0 0, .map none, .slice none 0 0, .slice none 0 0] 55
  ns : w.heap.size < bs
  nx : w.heap.size < bx
  ne : bl ≠ bs
  chg : Chg (fun _ => False) w wr

theorem X31.start {w : World} {nm mv : Value} {m : Nat} {ds : List (List Nat)} {bs bl bx E : Nat} {wc : World} (h : X31 w nm mv m E (numRow (m + 1) fun _ => 0) (numRow E fun _ => 0) bs bl bx wc) (hE : E ≤ 131072) : Y31 w nm mv m ds bs bx wc 0 bl E where
  s := by
    have e : (fun j => if j ≤ 0 then sumTo ds j else 0) = fun _ => 0 := by
      funext j
      by_cases hj : j ≤ 0
      · have : j = 0 := by omega
        subst this
        simp [sumTo]
      · simp [hj]
    rw [e]
    exact h.s
  l := ⟨by simp [nums, sumTo], .inr ⟨bl, E, _, rfl, h.nl, h.l, by simp [sumTo], by unfold maxLen; omega, by simp [numRow_length], by simp [nums, sumTo]⟩⟩
  x := h.x
  r := h.r
  ns := h.ns
  nx := h.nx
  ne := h.ne.symm
  chg := h.chg

theorem fin31 {w : World} {nm mv : Value} {k E : Nat} {R1 R2 : List Value} {ds : List (List Nat)} (hX : ∀ bs bl bx wc, X31 w nm mv k E R1 R2 bs bl bx wc → ∃ bl cl, Y31 w nm mv k ds bs bx wc 0 bl cl) {bs bl bx : Nat} {wc : World} (h : X31 w nm mv k E R1 R2 bs bl bx wc) :
    ∃ bs' bl' bx' cl', (.pointer (some ⟨bx, 0, none⟩) : Value) = .pointer (some ⟨bx', 0, none⟩) ∧ Hid (Y31 w nm mv k ds bs' bx' wc 0 bl' cl') := by
  obtain ⟨bl', cl', hy⟩ := hX bs bl bx wc h
  exact ⟨bs, bl', bx, cl', rfl, hy⟩

theorem own_blk_ne {w : World} {base g n cap b : Nat} {xs ys : List Value} {t : TypeId} (h : w.ownsRow base 3 1 (.slice (some ⟨g, 0, none⟩) n cap) n xs) (h' : Blk w b ys t) (ht : t ≠ 3) : g ≠ b := by
  intro e
  subst e
  rcases Row.look h with ⟨hv, _⟩ | ⟨g', cap', hv, _, _, _, _, _, _, cur, hc, _⟩
  · cases hv
  · cases hv
    unfold Blk at h'
    rw [h'] at hc
    injection hc with hc
    injection hc with _ hc
    exact ht hc

theorem Y31.step {w : World} {nm mv : Value} {m : Nat} {ds : List (List Nat)} {bs bx : Nat} {wr : World} {v bl cl : Nat} (h : Y31 w nm mv m ds bs bx wr v bl cl) {d : List Nat} (hd : ds[v]? = some d) {g' cap' : Nat} {w4 : World}
    (hr : w4.ownsRow (w.heap.size + 1) 3 1 (.slice (some ⟨g', 0, none⟩) (sumTo ds v + d.length) cap') (sumTo ds v + d.length) (nums (ds.take v).flatten ++ nums d)) (hc : Chg (fun k => bl = k) wr w4) (hg : g' = bl ∨ wr.heap.size ≤ g') :
    Y31 w nm mv m ds bs bx ((w4.setCell ⟨bx, 3, none⟩ (.slice (some ⟨g', 0, none⟩) (sumTo ds v + d.length) cap')).setCell ⟨bs, v + 1, none⟩ (.int .i64 ((sumTo ds v + d.length : Nat) : Int))) (v + 1) g' cap' := by
  have hs := sumTo_succ hd
  have c1 := Chg.setCell w4 ⟨bx, 3, none⟩ (.slice (some ⟨g', 0, none⟩) (sumTo ds v + d.length) cap')
  have c2 := Chg.setCell (w4.setCell ⟨bx, 3, none⟩ (.slice (some ⟨g', 0, none⟩) (sumTo ds v + d.length) cap')) ⟨bs, v + 1, none⟩ (.int .i64 ((sumTo ds v + d.length : Nat) : Int))
  have hx1 : bl ≠ bx := own_blk_ne h.l h.x (by decide)
  have hr1 : bl ≠ w.heap.size := own_blk_ne h.l h.r (by decide)
  have hx4 := h.x.chg hc hx1
  have hs4 := h.s.chg hc h.ne
  have hr4 := h.r.chg hc hr1
  have hgx : g' ≠ bx := own_blk_ne hr hx4 (by decide)
  have hsx : bs ≠ bx := Blk.ne h.s h.x (by decide)
  have hbl : w.heap.size < bl := (own_ge' h.l (k := bl) rfl).1
  have hgs : g' ≠ bs := by
    rcases hg with hg | hg
    · rw [hg]; exact h.ne
    · have := h.s.lt
      omega
  have hns := h.ns
  have hnx := h.nx
  exact {
    s := by
      have := (hs4.chg c1 hsx).set (v + 1) (.int .i64 ((sumTo ds v + d.length : Nat) : Int))
      rw [numRow_set] at this
      have e : (fun i => if i = v + 1 then sumTo ds v + d.length else if i ≤ v then sumTo ds i else 0) = fun j => if j ≤ v + 1 then sumTo ds j else 0 := by
        funext j
        by_cases e1 : j = v + 1
        · subst e1; simp [hs]
        · by_cases e2 : j ≤ v
          · simp [e1, e2, show j ≤ v + 1 by omega]
          · simp [e1, e2, show ¬ j ≤ v + 1 by omega]
      rw [e] at this
      exact this
    l := by
      have e : nums (ds.take (v + 1)).flatten = nums (ds.take v).flatten ++ nums d := by
        rw [List.take_add_one, hd]
        simp [nums]
      rw [e, hs]
      exact Row.chg (Row.chg hr c1 (fun b hb hf => by
        have e1 : g' = b := by simpa [Value.ownBlock] using hb
        have e2 : b = bx := hf
        omega)) c2 (fun b hb hf => by
        have e1 : g' = b := by simpa [Value.ownBlock] using hb
        have e2 : b = bs := hf
        omega)
    x := by
      have := (hx4.set 3 (.slice (some ⟨g', 0, none⟩) (sumTo ds v + d.length) cap')).chg c2 (fun e => hsx e.symm)
      rw [hs]
      exact this
    r := (hr4.chg c1 (fun e => by have e1 : w.heap.size = bx := e; omega)).chg c2 (fun e => by have e1 : w.heap.size = bs := e; omega)
    ns := h.ns
    nx := h.nx
    ne := hgs
    chg := ((h.chg.trans hc (fun b hb => .inr (by omega))).trans c1 (fun b hb => .inr (by have e : b = bx := hb; omega))).trans c2 (fun b hb => .inr (by have e : b = bs := hb; omega)) }

/-- What indexed hands back. -/
def IdxRes (ss : List (List UInt8)) (ds : List (List Nat)) (w : World) (e : Ending) (w' : World) : Prop := ∃ (A : Adj) (nv : Value) (b : Nat), e = .returned (.agg #[nv, .map (some b), A.sv, A.lv]) ∧ A.n = ss.length ∧ (∀ v, v < ss.length → A.adj v = adjOf ds v) ∧ A.Ok ∧ A.st A.n ≤ A.cl ∧ A.At w' w'.heap.size ∧ Sl0 w' nv (ss.map encStr) ∧ Chg (fun _ => False) w w'

theorem flatten_at {ds : List (List Nat)} {v : Nat} {d : List Nat} (hd : ds[v]? = some d) {i : Nat} (hi : i < d.length) : ds.flatten.getD (sumTo ds v + i) 0 = d.getD i 0 := by
  have e : ds = ds.take v ++ d :: ds.drop (v + 1) := by
    have hv := (List.getElem?_eq_some_iff.1 hd).1
    conv => lhs; rw [← List.take_append_drop v ds]
    rw [List.drop_eq_getElem_cons hv]
    congr 2
    exact (List.getElem?_eq_some_iff.1 hd).2
  have h1 : ds.flatten = (ds.take v).flatten ++ (d ++ (ds.drop (v + 1)).flatten) := by
    conv => lhs; rw [e]
    rw [List.flatten_append, List.flatten_cons]
  rw [h1, List.getD_eq_getElem?_getD, List.getElem?_append_right (by rw [flatten_take_length]; omega), flatten_take_length]
  rw [show sumTo ds v + i - sumTo ds v = i by omega, List.getElem?_append_left hi, List.getD_eq_getElem?_getD]

theorem Y31.res {w : World} {nm mv : Value} {m : Nat} {ds : List (List Nat)} {bs bx : Nat} {wr : World} {bl cl : Nat} (h : Y31 w nm mv m ds bs bx wr m bl cl) (hm : ds.length = m) (hn : m ≤ 4096) (hs : ∀ j, sumTo ds j ≤ 131072) (hlt : ∀ d ∈ ds, ∀ x ∈ d, x < m) {w' : World} (hc : Chg (fun k => k = w.heap.size) wr w') :
    ∃ A : Adj, A.n = m ∧ (∀ v, v < m → A.adj v = adjOf ds v) ∧ A.Ok ∧ A.st A.n ≤ A.cl ∧ A.At w' w'.heap.size ∧ A.sv = .slice (some ⟨bs, 0, none⟩) (m + 1) (m + 1) ∧ A.lv = .slice (some ⟨bl, 0, none⟩) (sumTo ds m) cl := by
  have hsw : bs < wr.heap.size := h.s.lt
  have hlw := own_ge' h.l (k := bl) rfl
  have hcap : sumTo ds m ≤ cl := by
    rcases Row.look h.l with ⟨hv, _⟩ | ⟨g', cap', hv, _, _, hle, _⟩
    · cases hv
    · cases hv; exact hle
  have hfl : (ds.take m).flatten = ds.flatten := by rw [List.take_of_length_le (by omega)]
  have hfn : ds.flatten.length = sumTo ds m := by rw [← hfl, flatten_take_length]
  have hcells : ∀ i u, (nums ds.flatten)[i]? = some u → wr.cell? ⟨bl, i, none⟩ = some u := by
    rcases Row.look h.l with ⟨hv, _⟩ | ⟨g', cap', hv, _, _, hle, _, hcs, _⟩
    · cases hv
    · cases hv
      rw [hfl] at hcs
      exact hcs
  have hsz := hc.size
  refine ⟨⟨m, sumTo ds, fun j => ds.flatten.getD j 0, bs, m + 1, bl, cl⟩, rfl, ?_, ?_, hcap, ?_, rfl, rfl⟩
  · intro v hv
    obtain ⟨d, hd⟩ : ∃ d, ds[v]? = some d := ⟨_, List.getElem?_eq_getElem (by omega)⟩
    rw [adjOf_at hd]
    unfold Adj.adj
    have hl : sumTo ds (v + 1) - sumTo ds v = d.length := by rw [sumTo_succ hd]; omega
    simp only [hl]
    apply List.ext_getElem
    · simp
    · intro i h1 h2
      simp only [List.getElem_map, List.getElem_range]
      rw [flatten_at hd h2, List.getD_eq_getElem?_getD, List.getElem?_eq_getElem h2]
      rfl
  · refine ⟨fun v _ => sumTo_mono ds v, fun v hv => sumTo_le ds hv, fun j hj => ?_⟩
    have hj' : j < ds.flatten.length := by rw [hfn]; exact hj
    show ds.flatten.getD j 0 < m
    rw [List.getD_eq_getElem?_getD, List.getElem?_eq_getElem hj']
    obtain ⟨d, hd, hx⟩ := List.mem_flatten.1 (List.getElem_mem hj')
    exact hlt d hd _ hx
  · refine ⟨fun j hj => ?_, fun j hj => ?_, by show bs < _; omega, by show bl < _; omega, fun j => by show sumTo ds j ≤ _; have := hs j; omega, by show m ≤ _; omega⟩
    · have hj' : j ≤ m := hj
      have := h.s.cell (numRow_at (fun j => if j ≤ m then sumTo ds j else 0) (show j < m + 1 by omega))
      rw [if_pos hj'] at this
      exact hc.cell this (fun e => by have e1 : bs = w.heap.size := e; have := h.ns; omega)
    · have hj' : j < ds.flatten.length := by rw [hfn]; exact hj
      refine hc.cell (hcells j _ ?_) (fun e => by have e1 : bl = w.heap.size := e; omega)
      simp only [nums, List.getElem?_map, List.getElem?_eq_getElem hj', Option.map_some, List.getD_eq_getElem?_getD, Option.getD_some]

set_option maxHeartbeats 4000000 in
set_option maxRecDepth 100000 in
theorem idx31 (w : World) (g : Nat) (ss : List (List UInt8)) (ds : List (List Nat)) (h : GraphAt w g ss (ds.map nums)) (hn : ss.length ≤ 4096) (hnd : ds.length = ss.length) (hsum : (ds.map List.length).sum ≤ 131072) (hlt : ∀ d ∈ ds, ∀ x ∈ d, x < ss.length) : Calls Try.prog 31 #[.pointer (some ⟨g, 0, none⟩)] w (IdxRes ss ds w) := by
  obtain ⟨nv, b, dv, x, y, hb, hnv, hdv⟩ := h
  obtain ⟨an, cn, rfl⟩ := hnv.sl.shape
  obtain ⟨ad, cd, rfl, q⟩ := hdv.shape
  simp only [List.length_map] at *
  have HB : Hid (∀ i d, ds[i]? = some d → ∃ b o a' c', ad = some ⟨b, o, none⟩ ∧ w.cell? ⟨b, o + i, none⟩ = some (.slice a' d.length c') ∧ Sl w (.slice a' d.length c') (nums d)) := fun i d hx => by
    obtain ⟨b, o, a', c', e1, e2, e3⟩ := q i (nums d) (by simp [hx])
    rw [nums_length] at e2 e3
    exact ⟨b, o, a', c', e1, e2, e3⟩
  have HBl : Hid (Blk w g [.slice an ss.length cn, .map (some b), .slice ad ds.length cd, x, y] 67) := hb
  have HNv : Hid (Sl0 w (.slice an ss.length cn) (ss.map encStr)) := hnv
  have HSum : Hid (sumTo ds ds.length ≤ 131072) := by show _ ≤ _; rw [sumTo_all ds (Nat.le_refl _)]; exact hsum
  rw [hnd] at HBl HSum
  have hsl : ∀ j, sumTo ds j ≤ 131072 := fun j => by
    by_cases hj : j ≤ ss.length
    · exact Nat.le_trans (sumTo_le ds hj) HSum.out
    · rw [sumTo_all ds (by omega)]; exact hsum
  have HSl : Hid (∀ j, sumTo ds j ≤ 131072) := hsl
  have HN : Hid (ds.length = ss.length) := hnd
  have HLt : Hid (∀ d ∈ ds, ∀ x ∈ d, x < ss.length) := hlt
  have HSs : Hid (ss.length = ss.length) := rfl
  have HIs : Hid (∀ A : Adj, ∀ nv b e w', e = .returned (.agg #[nv, .map (some b), A.sv, A.lv]) → A.n = ss.length → (∀ v, v < ss.length → A.adj v = adjOf ds v) → A.Ok → A.st A.n ≤ A.cl → A.At w' w'.heap.size → Sl0 w' nv (ss.map encStr) → Chg (fun _ => False) w w' → IdxRes ss ds w e w') := fun A nv b e w' h1 h2 h3 h4 h5 h6 h7 h8 => ⟨A, nv, b, h1, h2, h3, h4, h5, h6, h7, h8⟩
  generalize hm : ss.length = m at *
  have g2 : (w.alloc (.cells #[.slice none 0 0, .map none, .slice none 0 0, .slice none 0 0] 55)).cell? ⟨g, 2, none⟩ = some (.slice ad m cd) := (HBl.out.chg (Chg.alloc (fun _ => False) w _) (fun h => h)).cell (i := 2) rfl
  clear hb hnv hdv q hnd hsum hm hsl hlt HSs
  go_enter Try.func31, Try.ntmps31
  go_upto_block 0 with (fail)
  refine atWorld (fun W' => Hid (Chg (fun _ => False) w W' ∧ Blk W' w.heap.size [.slice none 0 0, .map none, .slice none 0 0, .slice none 0 0] 55 ∧ W'.heap.size = w.heap.size + 1)) ⟨Chg.alloc _ _ _, Blk.new _ _ _, by simp⟩ ?_
  intro W1 HW1
  have g0 := (HBl.out.chg HW1.out.1 (fun h => h)).cell (i := 0) rfl
  have g1 := (HBl.out.chg HW1.out.1 (fun h => h)).cell (i := 1) rfl
  have g2' := (HBl.out.chg HW1.out.1 (fun h => h)).cell (i := 2) rfl
  clear g2
  go_wp2
  go_loopg [3, 14] m (fun gh s t wi => ∃ k : Nat, k ≤ m ∧ gh = m - k ∧ t = .int .i64 k ∧ s = .int .i64 (sumTo ds k) ∧ Hid (wi = W1))
  case atStart => exact ⟨0, Nat.zero_le _, rfl, rfl, rfl, rfl⟩
  case round =>
    obtain ⟨k, hk, rfl, rfl, rfl, HW⟩ := hrel
    by_cases hkm : k < m
    · have hkz : (k : Int) < (m : Int) := by omega
      obtain ⟨d, hd⟩ : ∃ d, ds[k]? = some d := ⟨_, List.getElem?_eq_getElem (by have := HN.out; omega)⟩
      obtain ⟨b2, o2, a', c', rfl, e2, _⟩ := HB.out k d hd
      have d2 : wr.cell? ⟨b2, o2 + k, none⟩ = some (.slice a' d.length c') := by rw [HW.out]; exact HW1.out.1.cell e2 (fun h => h)
      have HS : Hid (sumTo ds (k + 1) = sumTo ds k + d.length) := sumTo_succ hd
      have h1 := HSl.out (k + 1)
      rw [HS.out] at h1
      clear hd e2
      generalize d.length = l at *
      generalize sumTo ds k = z at *
      go_wp2
      go_roundg (m - (k + 1))
      case measure => go_light; omega
      case rel => exact ⟨k + 1, by omega, rfl, by go_num, by rw [HS.out]; go_num, HW.out⟩
    · have e : k = m := by omega
      subst e
      have hW := HW.out
      subst hW
      have hE := HSl.out k
      have m1 := make47 (k + 1) (by omega)
      have m2 : ∀ W, (Instr.makeSlice 47 (.int .i64 0) (.int .i64 (sumTo ds k))).run Try.prog W = .ok (.slice (some ⟨W.heap.size, 0, none⟩) 0 (sumTo ds k)) (W.alloc (.cells (numRow (sumTo ds k) fun _ => 0).toArray 3)) := fun W => by
        obtain ⟨i0, hi, hz0, hz1, hz2⟩ := info_parts infoS3
        have := run_make (P := Try.prog) W 47 3 i0 _ Try.underlying47 hi hz0 .i64 .i64 0 (sumTo ds k) (by omega) (by omega) (by rw [hz2]; omega) (by omega)
        rw [hz1, Int.toNat_natCast, Nat.mul_one, made_nums] at this
        exact this
      have m1' : ∀ W, (Instr.makeSlice 47 (.int .i64 ((k : Int) + 1)) (.int .i64 ((k : Int) + 1))).run Try.prog W = .ok (.slice (some ⟨W.heap.size, 0, none⟩) (k + 1) (k + 1)) (W.alloc (.cells (numRow (k + 1) fun _ => 0).toArray 3)) := fun W => m1 W
      clear m1
      generalize sumTo ds k = E at *
      generalize hR1 : (numRow (k + 1) fun _ => 0) = R1 at *
      generalize hR2 : (numRow E fun _ => 0) = R2 at *
      have HR1 : Hid ((numRow (k + 1) fun _ => 0) = R1) := hR1
      have HR2 : Hid ((numRow E fun _ => 0) = R2) := hR2
      clear hR1 hR2
      have ga : ∀ (W : World) (o : Obj) (j : Nat) (v : Value), W.cell? ⟨g, j, none⟩ = some v → (W.alloc o).cell? ⟨g, j, none⟩ = some v := fun W o j v hv => (Chg.alloc (fun _ => False) W o).cell hv (fun h => h)
      have g01 := fun o => ga wr o 0 _ g0
      have g02 := fun o o' => ga _ o' 0 _ (g01 o)
      have g03 := fun o o' o'' => ga _ o'' 0 _ (g02 o o')
      have g11 := fun o => ga wr o 1 _ g1
      have g12 := fun o o' => ga _ o' 1 _ (g11 o)
      have g13 := fun o o' o'' => ga _ o'' 1 _ (g12 o o')
      clear ga
      have HX : Hid (∀ bs bl bx wc, X31 w (.slice an k cn) (.map (some b)) k E R1 R2 bs bl bx wc → ∃ bl cl, Y31 w (.slice an k cn) (.map (some b)) k ds bs bx wc 0 bl cl) := fun bs bl bx wc h => by
        rw [← HR1.out, ← HR2.out] at h
        exact ⟨bl, E, h.start hE⟩
      go_upto_region 7 with (fail)
      go_cut [6] (fun s wc => ∃ bs bl bx cl, s = .pointer (some ⟨bx, 0, none⟩) ∧ Hid (Y31 w (.slice an k cn) (.map (some b)) k ds bs bx wc 0 bl cl))
      case first =>
        go_region
        all_goals
          go_wp2
          go_meet
          case rel =>
            clear g01 g02 g03 g11 g12 g13 m1' m2
            first
              | exact fin31 HX.out (X31.of HW1.out (three wr _ _ _).2.2.2 (three wr _ _ _).1 (three wr _ _ _).2.1 (three wr _ _ _).2.2.1 (by omega) (by omega) (by omega) (by omega))
              | exact fin31 HX.out (X31.of HW1.out (three wr _ _ _).2.2.2 (three wr _ _ _).1 (three wr _ _ _).2.2.1 (three wr _ _ _).2.1 (by omega) (by omega) (by omega) (by omega))
              | exact fin31 HX.out (X31.of HW1.out (three wr _ _ _).2.2.2 (three wr _ _ _).2.1 (three wr _ _ _).1 (three wr _ _ _).2.2.1 (by omega) (by omega) (by omega) (by omega))
              | exact fin31 HX.out (X31.of HW1.out (three wr _ _ _).2.2.2 (three wr _ _ _).2.1 (three wr _ _ _).2.2.1 (three wr _ _ _).1 (by omega) (by omega) (by omega) (by omega))
              | exact fin31 HX.out (X31.of HW1.out (three wr _ _ _).2.2.2 (three wr _ _ _).2.2.1 (three wr _ _ _).1 (three wr _ _ _).2.1 (by omega) (by omega) (by omega) (by omega))
              | exact fin31 HX.out (X31.of HW1.out (three wr _ _ _).2.2.2 (three wr _ _ _).2.2.1 (three wr _ _ _).2.1 (three wr _ _ _).1 (by omega) (by omega) (by omega) (by omega))
      case rest =>
        obtain ⟨bs, bl0, bx, cl0, rfl, HY0⟩ := hcut
        clear g01 g02 g03 g11 g12 g13 m1' m2 HX g0 g1 g2'
        have g2' := (HBl.out.chg HY0.out.chg (fun h => h)).cell (i := 2) rfl
        go_wp2
        go_loopg [47] k (fun gh s wi => ∃ (v bl cl : Nat), v ≤ k ∧ gh = k - v ∧ s = .int .i64 v ∧ Hid (Y31 w (.slice an k cn) (.map (some b)) k ds bs bx wi v bl cl))
        case atStart => exact ⟨0, bl0, cl0, Nat.zero_le _, rfl, rfl, HY0.out⟩
        case round =>
          obtain ⟨v, bl, cl, hv, rfl, rfl, HY⟩ := hrel
          clear HY0 g2' HW1
          by_cases hvk : v < k
          · have hvz : (v : Int) < (k : Int) := by omega
            obtain ⟨d, hd⟩ : ∃ d, ds[v]? = some d := ⟨_, List.getElem?_eq_getElem (by have := HN.out; omega)⟩
            obtain ⟨b2, o2, a', c', rfl, e2, e3⟩ := HB.out v d hd
            have d2 : wr.cell? ⟨b2, o2 + v, none⟩ = some (.slice a' d.length c') := HY.out.chg.cell e2 (fun h => h)
            have hz1 := HSl.out v
            have hz2 := HSl.out (v + 1)
            have hss := sumTo_succ hd
            obtain ⟨g', cap', w4, hrun, hr4, hc4, hg4⟩ := run_extend (w.heap.size + 1) bl (sumTo ds v) cl _ HY.out.l a' c' d (e3.chg HY.out.chg) (by omega) (by omega) (by have := HY.out.r.lt; omega)
            have HS : Hid (Y31 w (.slice an k cn) (.map (some b)) k ds bs bx ((w4.setCell ⟨bx, 3, none⟩ (.slice (some ⟨g', 0, none⟩) (sumTo ds v + d.length) cap')).setCell ⟨bs, v + 1, none⟩ (.int .i64 ((sumTo ds v + d.length : Nat) : Int))) (v + 1) g' cap') := HY.out.step hd hr4 hc4 hg4
            have x3 := HY.out.x.cell (i := 3) rfl
            have hx1 : bl ≠ bx := own_blk_ne HY.out.l HY.out.x (by decide)
            have hx4 := HY.out.x.chg hc4 hx1
            have hs4 := HY.out.s.chg hc4 HY.out.ne
            have y2 := hx4.cell (i := 2) rfl
            have y3 := hx4.cell (i := 3) rfl
            have yf := hx4.free 3
            have s1 := hs4.cell (numRow_at (fun j => if j ≤ v then sumTo ds j else 0) (show v + 1 < k + 1 by omega))
            have sf := hs4.free (v + 1)
            have hsx : bs ≠ bx := Blk.ne HY.out.s HY.out.x (by decide)
            have hsx' : ¬ bx = bs := fun e => hsx e.symm
            clear hd e2 e3 hr4 hc4 hg4 hx4 hs4 hx1
            generalize d.length = l at *
            generalize sumTo ds v = z at *
            have hzl : z + l ≤ 131072 := by omega
            clear hss hz2
            have HRun : Hid ((Builtin.append_ #[47, 47] 47 #[.slice (some ⟨bl, 0, none⟩) z cl, .slice a' l c']).run Try.prog wr = .ok (.slice (some ⟨g', 0, none⟩) (z + l) cap') w4) := hrun
            clear hrun
            go_wp2_with (at_builtin; refine wp_append_run rfl (.tmp 54) (.tmp 55) 47 rfl (.slice (some ⟨bl, 0, none⟩) z cl) (.slice a' l c') rfl rfl HRun.out ?_)
            go_roundg (k - (v + 1))
            case measure => go_light; omega
            case rel => exact ⟨v + 1, g', cap', by omega, rfl, by go_num, HS.out⟩
          · have e : v = k := by omega
            subst e
            have x0 := HY.out.x.cell (i := 0) rfl
            have x1 := HY.out.x.cell (i := 1) rfl
            have x2 := HY.out.x.cell (i := 2) rfl
            have x3 := HY.out.x.cell (i := 3) rfl
            have r0 := HY.out.r.cell (i := 0) rfl
            have r1 := HY.out.r.cell (i := 1) rfl
            have r2 := HY.out.r.cell (i := 2) rfl
            have r3 := HY.out.r.cell (i := 3) rfl
            have f0 := HY.out.r.free 0
            have f1 := HY.out.r.free 1
            have f2 := HY.out.r.free 2
            have f3 := HY.out.r.free 3
            have HRb : Hid (Blk ((((wr.setCell ⟨w.heap.size, 0, none⟩ (.slice an v cn)).setCell ⟨w.heap.size, 1, none⟩ (.map (some b))).setCell ⟨w.heap.size, 2, none⟩ (.slice (some ⟨bs, 0, none⟩) (v + 1) (v + 1))).setCell ⟨w.heap.size, 3, none⟩ (.slice (some ⟨bl, 0, none⟩) (sumTo ds v) cl)) w.heap.size [.slice an v cn, .map (some b), .slice (some ⟨bs, 0, none⟩) (v + 1) (v + 1), .slice (some ⟨bl, 0, none⟩) (sumTo ds v) cl] 55) :=
              (((HY.out.r.set 0 (.slice an v cn)).set 1 (.map (some b))).set 2 (.slice (some ⟨bs, 0, none⟩) (v + 1) (v + 1))).set 3 (.slice (some ⟨bl, 0, none⟩) (sumTo ds v) cl)
            have HCh : Hid (Chg (fun k => k = w.heap.size) wr ((((wr.setCell ⟨w.heap.size, 0, none⟩ (.slice an v cn)).setCell ⟨w.heap.size, 1, none⟩ (.map (some b))).setCell ⟨w.heap.size, 2, none⟩ (.slice (some ⟨bs, 0, none⟩) (v + 1) (v + 1))).setCell ⟨w.heap.size, 3, none⟩ (.slice (some ⟨bl, 0, none⟩) (sumTo ds v) cl))) :=
              (((Chg.setCell wr ⟨w.heap.size, 0, none⟩ _).trans (Chg.setCell _ ⟨w.heap.size, 1, none⟩ _) (fun b hb => .inl hb)).trans (Chg.setCell _ ⟨w.heap.size, 2, none⟩ _) (fun b hb => .inl hb)).trans (Chg.setCell _ ⟨w.heap.size, 3, none⟩ _) (fun b hb => .inl hb)
            go_wp2
            refine bodyPost_ret (results_cell_row rfl _ _ w.heap.size 55 #[.slice an v cn, .map (some b), .slice (some ⟨bs, 0, none⟩) (v + 1) (v + 1), .slice (some ⟨bl, 0, none⟩) (sumTo ds v) cl] (0, 0) _ rfl HRb.out Try.underlying55 rfl (by kernel_rfl)) rfl ?_
            have hc := HCh.out
            generalize ((((wr.setCell ⟨w.heap.size, 0, none⟩ (.slice an v cn)).setCell ⟨w.heap.size, 1, none⟩ (.map (some b))).setCell ⟨w.heap.size, 2, none⟩ (.slice (some ⟨bs, 0, none⟩) (v + 1) (v + 1))).setCell ⟨w.heap.size, 3, none⟩ (.slice (some ⟨bl, 0, none⟩) (sumTo ds v) cl)) = w' at hc ⊢
            obtain ⟨A, h1, h2, h3, h4, h5, h6, h7⟩ := HY.out.res HN.out hn HSl.out HLt.out hc
            have hcw : Chg (fun _ => False) w w' := HY.out.chg.trans hc (fun b hb => .inr (by omega))
            exact HIs.out A _ b _ w' (by rw [h6, h7]) h1 h2 h3 h4 h5 (HNv.out.chg hcw) hcw
end Go.Proofs.Qxb6616078a
