/- components: the walk. -/
import Derived.Test.Qxb6616078aRun
import Derived.Deep.LoopGhost
import Derived.Deep.CutBlock
import Derived.Deep.DeepCutAuto
import Derived.Deep.Light
namespace Go.Proofs.Qxb6616078a
open Go.RowKit Tj

theorem info4 : (Try.prog.info? 4).map (fun i => (i.zero, i.size, i.bytes)) = some (some (.bool false), 1, 1) := by kernel_rfl

theorem made_one (v : Value) (h : v.cells = #[v]) (n : Nat) : madeCells v.cells n = (List.replicate n v).toArray := by
  unfold madeCells
  rw [h]
  apply Array.ext
  · simp
  · intro i h1 h2
    have : i % 1 = 0 := Nat.mod_one i
    simp [this]
theorem made_nums (n : Nat) : madeCells (Value.int .i64 0).cells n = (numRow n fun _ => 0).toArray := by
  rw [made_one _ rfl]
  congr 1
  apply List.ext_getElem <;> simp [numRow]
theorem made_bools (n : Nat) : madeCells (Value.bool false).cells n = (boolRow n fun _ => false).toArray := by
  rw [made_one _ rfl]
  congr 1
  apply List.ext_getElem <;> simp [boolRow]

theorem make47 (n : Nat) (h : n ≤ 1048577) (w : World) : (Instr.makeSlice 47 (.int .i64 n) (.int .i64 n)).run Try.prog w = .ok (.slice (some ⟨w.heap.size, 0, none⟩) n n) (w.alloc (.cells (numRow n fun _ => 0).toArray 3)) := by
  obtain ⟨i0, hi, hz0, hz1, hz2⟩ := info_parts info3
  have := run_make (P := Try.prog) w 47 3 i0 _ Try.underlying47 hi hz0 .i64 .i64 n n (by omega) (by omega) (by rw [hz2]; omega) (by omega)
  rw [hz1, Int.toNat_natCast, Nat.mul_one, made_nums] at this
  exact this
theorem make37 (n : Nat) (h : n ≤ 1048577) (w : World) : (Instr.makeSlice 37 (.int .i64 n) (.int .i64 n)).run Try.prog w = .ok (.slice (some ⟨w.heap.size, 0, none⟩) n n) (w.alloc (.cells (boolRow n fun _ => false).toArray 4)) := by
  obtain ⟨i0, hi, hz0, hz1, hz2⟩ := info_parts info4
  have := run_make (P := Try.prog) w 37 4 i0 _ Try.underlying37 hi hz0 .i64 .i64 n n (by omega) (by omega) (by rw [hz2]; omega) (by omega)
  rw [hz1, Int.toNat_natCast, Nat.mul_one, made_bools] at this
  exact this

theorem Adj.At.up {A : Adj} {w : World} {N0 N1 : Nat} (h : A.At w N0) (hN : N0 ≤ N1) : A.At w N1 := ⟨h.sc, h.lc, Nat.lt_of_lt_of_le h.bs hN, Nat.lt_of_lt_of_le h.bl hN, h.st0, h.n0⟩

section
variable {A : Adj} {N0 : Nat} {FS : World → (Nat → Prop) → List (List Nat) → Prop} {fargs : Value × Value × Value} {W : World} {D0 : Nat → Prop} {w : World} {D : Nat → Prop} {cs : List (List Nat)} {ord low nx nxt : Nat → Nat} {on : Nat → Bool} {segs : List (Nat × List Nat)} {cnt : Nat} {vp vs : Value}
theorem Run.pathNil (R : Run A N0 FS W D0 w D cs ord low nx nxt on [] cnt vp vs) : ∃ a c, vp = .slice a 0 c := by
  rcases Row.look R.st.pR with ⟨h, _⟩ | ⟨g, cap, h, _⟩
  · exact ⟨_, _, h⟩
  · exact ⟨_, _, h⟩
theorem Run.pathTop {p : Nat} {r : List Nat} {rest : List (Nat × List Nat)} (R : Run A N0 FS W D0 w D cs ord low nx nxt on ((p, r) :: rest) cnt vp vs) :
    ∃ gp cp, vp = .slice (some ⟨gp, 0, none⟩) (rest.length + 1) cp ∧ rest.length + 1 ≤ cp ∧ w.cell? ⟨gp, rest.length, none⟩ = some (.int .i64 p) ∧ W.heap.size + 12 ≤ gp ∧ ∀ (q : Nat) (t : List Nat) (rest' : List (Nat × List Nat)), rest = (q, t) :: rest' → w.cell? ⟨gp, rest'.length, none⟩ = some (.int .i64 q) := by
  have h := R.st.pR
  have e : (((p, r) :: rest).map Prod.fst).reverse = (rest.map Prod.fst).reverse ++ [p] := by simp
  rw [e, List.length_append] at h
  simp only [List.length_reverse, List.length_map, List.length_cons, List.length_nil, Nat.zero_add] at h
  rcases Row.look h with ⟨_, h, _⟩ | ⟨g, cap, hv, hg, _, hle, _, hc, _⟩
  · omega
  · refine ⟨g, cap, hv, hle, hc _ _ ?_, hg, ?_⟩
    · rw [nums_snoc, List.getElem?_append_right (by simp [nums])]
      simp [nums]
    · intro q t rest' er
      subst er
      refine hc _ _ ?_
      rw [nums_snoc]
      simp [nums]
end

theorem atWorld {P : Program} {c : Code} {Q : Exit → Act → World → Prop} {a : Act} {W : World} (F : World → Prop) (h : F W) (k : ∀ W', F W' → Code.wp P c Q a W') : Code.wp P c Q a W := k W h

theorem Chg.drewN (F : Nat → Prop) (w : World) (j : Nat) : Chg F w (w.drewN j) := ⟨rfl, rfl, rfl, Nat.le_refl _, fun _ _ _ => rfl⟩
theorem Run.drewN {A : Adj} {N0 : Nat} {FS : World → (Nat → Prop) → List (List Nat) → Prop} {fargs : Value × Value × Value} {W : World} {D0 : Nat → Prop} {w : World} {D : Nat → Prop} {cs : List (List Nat)} {ord low nx nxt : Nat → Nat} {on : Nat → Bool} {segs : List (Nat × List Nat)} {cnt : Nat} {vp vs : Value} (R : Run A N0 FS W D0 w D cs ord low nx nxt on segs cnt vp vs) (K : Keeper N0 A.n FS fargs) (j : Nat) : Run A N0 FS W D0 (w.drewN j) D cs ord low nx nxt on segs cnt vp vs := by
  obtain ⟨h1, h2, h3⟩ := R.keep K (Chg.drewN _ w j)
  exact ⟨R.inv, R.st.chg (Chg.drewN (fun _ => False) _ j) (fun _ h => h.elim), R.nxtE, R.onE, h1, R.ap, h2, h3, R.dom, R.n0, R.cntE⟩

/-- Behind 'path = path[:len(path)-1]' and what it does to the parent. -/
structure Mid (A : Adj) (N0 : Nat) (FS : World → (Nat → Prop) → List (List Nat) → Prop) (W : World) (D0 : Nat → Prop) (w1 wc : World) (D : Nat → Prop) (cs : List (List Nat)) (ord low low2 nx nxt : Nat → Nat) (on : Nat → Bool) (p : Nat) (r : List Nat) (rest : List (Nat × List Nat)) (cnt gp cp : Nat) (vs : Value) : Prop where
  st : St A W.heap.size wc ord low2 nxt on (rest.map Prod.fst).reverse (stk ((p, r) :: rest)).reverse cnt (.slice (some ⟨gp, 0, none⟩) rest.length cp) vs
  chg : Chg (fun x => W.heap.size ≤ x ∧ x < W.heap.size + 12) w1 wc
  lowp : low2 p = low p
  eq : low p = ord p → low2 = low
  ne : low p ≠ ord p → ∃ segs', Run A N0 FS W D0 wc D cs ord low2 nx nxt on segs' cnt (.slice (some ⟨gp, 0, none⟩) rest.length cp) vs ∧ segs'.length = rest.length

theorem Mid.nil {A : Adj} {N0 : Nat} {FS : World → (Nat → Prop) → List (List Nat) → Prop} {W : World} {D0 : Nat → Prop} {w1 : World} {D : Nat → Prop} {cs : List (List Nat)} {ord low nx nxt : Nat → Nat} {on : Nat → Bool} {p : Nat} {r : List Nat} {cnt gp cp : Nat} {vs : Value} (R : Run A N0 FS W D0 w1 D cs ord low nx nxt on [(p, r)] cnt (.slice (some ⟨gp, 0, none⟩) 1 cp) vs) :
    Mid A N0 FS W D0 w1 (w1.setCell ⟨W.heap.size + 9, 0, none⟩ (.slice (some ⟨gp, 0, none⟩) 0 cp)) D cs ord low low nx nxt on p r [] cnt gp cp vs := by
  refine ⟨?_, (Chg.setCell w1 ⟨W.heap.size + 9, 0, none⟩ _).mono (fun b hb => .inl ⟨by simp at hb; omega, by simp at hb; omega⟩), rfl, fun _ => rfl, fun h => absurd R.inv.last h⟩
  have h := R.st
  exact St.popPath (path := []) (p := p) (gp := gp) (cp := cp) h

theorem Mid.cons {A : Adj} {N0 : Nat} {FS : World → (Nat → Prop) → List (List Nat) → Prop} {fargs : Value × Value × Value} {W : World} {D0 : Nat → Prop} {w1 : World} {D : Nat → Prop} {cs : List (List Nat)} {ord low nx nxt : Nat → Nat} {on : Nat → Bool} {p q : Nat} {r t : List Nat} {rest : List (Nat × List Nat)} {cnt gp cp : Nat} {vs : Value} (R : Run A N0 FS W D0 w1 D cs ord low nx nxt on ((p, r) :: (q, t) :: rest) cnt (.slice (some ⟨gp, 0, none⟩) (rest.length + 2) cp) vs) (K : Keeper N0 A.n FS fargs) (hf : nx p = (A.adj p).length) (lw : Nat) (hlw : lw = min (low q) (low p)) :
    Mid A N0 FS W D0 w1 ((w1.setCell ⟨W.heap.size + 9, 0, none⟩ (.slice (some ⟨gp, 0, none⟩) (rest.length + 1) cp)).setCell ⟨W.heap.size + 3, q, none⟩ (.int .i64 lw)).drew D cs ord low (upd low q lw) nx nxt on p r ((q, t) :: rest) cnt gp cp vs := by
  have hnd := (List.nodup_append.1 R.inv.nodup).1
  have hqp : p ≠ q := by
    intro e
    subst e
    simp only [stk] at hnd
    exact (List.nodup_cons.1 (List.nodup_append.1 hnd).2.1).1 (by simp)
  have hs : St A W.heap.size (w1.setCell ⟨W.heap.size + 9, 0, none⟩ (.slice (some ⟨gp, 0, none⟩) (rest.length + 1) cp)) ord low nxt on (((q, t) :: rest).map Prod.fst).reverse (stk ((p, r) :: (q, t) :: rest)).reverse cnt (.slice (some ⟨gp, 0, none⟩) (rest.length + 1) cp) vs := by
    have h := R.st
    have e1 : (((p, r) :: (q, t) :: rest).map Prod.fst).reverse = (((q, t) :: rest).map Prod.fst).reverse ++ [p] := by simp
    rw [e1] at h
    have el : (((q, t) :: rest).map Prod.fst).reverse.length = rest.length + 1 := by simp
    have h' := St.popPath (path := (((q, t) :: rest).map Prod.fst).reverse) (p := p) (gp := gp) (cp := cp) (by rw [el]; exact h)
    rw [el] at h'
    exact h'
  refine ⟨(hs.setLow q lw).chg (Chg.drew (fun _ => False) _) (fun _ h => h.elim), ?_, upd_other _ _ hqp, ?_, ?_⟩
  · exact (((Chg.setCell w1 ⟨W.heap.size + 9, 0, none⟩ _).mono (fun b hb => .inl ⟨by simp at hb; omega, by simp at hb; omega⟩)).trans (Chg.setCell _ ⟨W.heap.size + 3, q, none⟩ _) (fun b hb => .inl ⟨by simp at hb; omega, by simp at hb; omega⟩)).trans (Chg.drew (fun _ => False) _) (fun _ h => h.elim)
  · intro hl
    have h1 := (R.inv.lowS (q, t) (by simp)).1
    have h1' : low q ≤ ord q := h1
    have h2 : ord q < ord p := by
      have hd := R.inv.dec
      simp only [stk] at hd
      exact (List.pairwise_cons.1 (List.pairwise_append.1 hd).2.1).1 q (by simp)
    have e : lw = low q := by omega
    subst e
    exact upd_self low q
  · intro hl
    exact ⟨_, (R.merge K hf hl lw hlw).drew K, by simp⟩

theorem Mid.drewN {A : Adj} {N0 : Nat} {FS : World → (Nat → Prop) → List (List Nat) → Prop} {fargs : Value × Value × Value} {W : World} {D0 : Nat → Prop} {w1 wc : World} {D : Nat → Prop} {cs : List (List Nat)} {ord low low2 nx nxt : Nat → Nat} {on : Nat → Bool} {p : Nat} {r : List Nat} {rest : List (Nat × List Nat)} {cnt gp cp : Nat} {vs : Value} (M : Mid A N0 FS W D0 w1 wc D cs ord low low2 nx nxt on p r rest cnt gp cp vs) (K : Keeper N0 A.n FS fargs) (j : Nat) : Mid A N0 FS W D0 w1 (wc.drewN j) D cs ord low low2 nx nxt on p r rest cnt gp cp vs :=
  ⟨M.st.chg (Chg.drewN (fun _ => False) _ j) (fun _ h => h.elim), M.chg.trans (Chg.drewN (fun _ => False) _ j) (fun _ h => h.elim), M.lowp, M.eq, fun h => by
    obtain ⟨s, h1, h2⟩ := M.ne h
    exact ⟨s, h1.drewN K j, h2⟩⟩

theorem Mid.stackTop {A : Adj} {N0 : Nat} {FS : World → (Nat → Prop) → List (List Nat) → Prop} {W : World} {D0 : Nat → Prop} {w1 wc : World} {D : Nat → Prop} {cs : List (List Nat)} {ord low low2 nx nxt : Nat → Nat} {on : Nat → Bool} {p : Nat} {r : List Nat} {rest : List (Nat × List Nat)} {cnt gp cp : Nat} {vs : Value} (M : Mid A N0 FS W D0 w1 wc D cs ord low low2 nx nxt on p r rest cnt gp cp vs) :
    ∃ gs ck, vs = .slice (some ⟨gs, 0, none⟩) ((stk rest).length + (r.length + 1)) ck ∧ (stk rest).length + (r.length + 1) ≤ ck ∧ W.heap.size + 12 ≤ gs ∧ Hid (∀ j (x : Nat), ((stk rest).reverse ++ p :: r.reverse)[j]? = some x → wc.cell? ⟨gs, j, none⟩ = some (.int .i64 x)) := by
  have h := M.st.kR
  have el : (stk ((p, r) :: rest)).reverse.length = (stk rest).length + (r.length + 1) := by simp [stk]
  have er : (stk ((p, r) :: rest)).reverse = (stk rest).reverse ++ p :: r.reverse := by simp [stk]
  rw [el] at h
  rcases Row.look h with ⟨_, h, _⟩ | ⟨g, cap, hv, hg, _, hle, _, hc, _⟩
  · omega
  · refine ⟨g, cap, hv, hle, hg, ?_⟩
    intro j x hx
    refine hc j _ ?_
    rw [er]
    simp only [nums, List.getElem?_map, hx, Option.map_some]

theorem Mid.cut {A : Adj} {N0 : Nat} {FS : World → (Nat → Prop) → List (List Nat) → Prop} {W : World} {D0 : Nat → Prop} {w1 wc : World} {D : Nat → Prop} {cs : List (List Nat)} {ord low low2 nx nxt : Nat → Nat} {on : Nat → Bool} {p : Nat} {r : List Nat} {rest : List (Nat × List Nat)} {cnt gp cp gs ck i0 l : Nat} (M : Mid A N0 FS W D0 w1 wc D cs ord low low2 nx nxt on p r rest cnt gp cp (.slice (some ⟨gs, 0, none⟩) l ck)) (h0 : i0 = (stk rest).length) :
    St A W.heap.size (wc.setCell ⟨W.heap.size + 10, 0, none⟩ (.slice (some ⟨gs, 0, none⟩) i0 ck)) ord low2 nxt on (rest.map Prod.fst).reverse (stk rest).reverse cnt (.slice (some ⟨gp, 0, none⟩) rest.length cp) (.slice (some ⟨gs, 0, none⟩) i0 ck) := by
  have h := M.st
  have er : (stk ((p, r) :: rest)).reverse = (stk rest).reverse ++ (p :: r.reverse) := by simp [stk]
  rw [er] at h
  have el : l = ((stk rest).reverse ++ (p :: r.reverse)).length := by
    rcases Row.look h.kR with ⟨h, _⟩ | ⟨g, cap, hv, _⟩
    · cases h
    · cases hv; rfl
  subst el
  have := h.cutStack
  have e0 : (stk rest).reverse.length = i0 := by rw [h0]; simp
  rw [e0] at this
  exact this

theorem chg_allocs : ∀ (os : List Obj) (w : World), Chg (fun _ => False) w (os.foldl World.alloc w)
  | [], w => Chg.refl _ w
  | o :: os, w => (Chg.alloc _ w o).trans (chg_allocs os (w.alloc o)) (fun _ h => h.elim)
theorem heap_allocs : ∀ (os : List Obj) (w : World) (i : Nat) (o : Obj), os[i]? = some o → (os.foldl World.alloc w).heap[w.heap.size + i]? = some o
  | [], w, i, o, h => by simp at h
  | x :: os, w, 0, o, h => by
    have e : x = o := by simpa using h
    subst e
    have := (chg_allocs os (w.alloc x)).block w.heap.size (by simp) (fun h => h)
    show (os.foldl World.alloc (w.alloc x)).heap[w.heap.size + 0]? = _
    rw [Nat.add_zero, this]
    exact heap_alloc_new w x
  | x :: os, w, i + 1, o, h => by
    have := heap_allocs os (w.alloc x) i o (by simpa using h)
    have e : (w.alloc x).heap.size + i = w.heap.size + (i + 1) := by simp; omega
    rw [e] at this
    exact this

theorem run_start {A : Adj} {N0 : Nat} {FS : World → (Nat → Prop) → List (List Nat) → Prop} {fargs : Value × Value × Value} (K : Keeper N0 A.n FS fargs) {w : World} (hA : A.At w N0) (hN : N0 ≤ w.heap.size) {D0 : Nat → Prop} (hfs : FS w D0 []) {w12 : World}
    (e : w12 = [Obj.cells #[A.sv, A.lv] 53, Obj.cells (numRow A.n fun _ => 0).toArray 3, Obj.cells #[.slice (some ⟨w.heap.size + 1, 0, none⟩) A.n A.n] 47, Obj.cells (numRow A.n fun _ => 0).toArray 3, Obj.cells #[.slice (some ⟨w.heap.size + 3, 0, none⟩) A.n A.n] 47, Obj.cells (numRow A.n fun _ => 0).toArray 3, Obj.cells #[.slice (some ⟨w.heap.size + 5, 0, none⟩) A.n A.n] 47, Obj.cells (boolRow A.n fun _ => false).toArray 4, Obj.cells #[.slice (some ⟨w.heap.size + 7, 0, none⟩) A.n A.n] 37, Obj.cells #[.slice none 0 0] 47, Obj.cells #[.slice none 0 0] 47, Obj.cells #[.int .i64 0] 3].foldl World.alloc w) :
    Run A N0 FS w D0 w12 D0 [] (fun _ => 0) (fun _ => 0) (fun _ => 0) (fun _ => 0) (fun _ => false) [] 0 (.slice none 0 0) (.slice none 0 0) := by
  have hc := chg_allocs [Obj.cells #[A.sv, A.lv] 53, Obj.cells (numRow A.n fun _ => 0).toArray 3, Obj.cells #[.slice (some ⟨w.heap.size + 1, 0, none⟩) A.n A.n] 47, Obj.cells (numRow A.n fun _ => 0).toArray 3, Obj.cells #[.slice (some ⟨w.heap.size + 3, 0, none⟩) A.n A.n] 47, Obj.cells (numRow A.n fun _ => 0).toArray 3, Obj.cells #[.slice (some ⟨w.heap.size + 5, 0, none⟩) A.n A.n] 47, Obj.cells (boolRow A.n fun _ => false).toArray 4, Obj.cells #[.slice (some ⟨w.heap.size + 7, 0, none⟩) A.n A.n] 37, Obj.cells #[.slice none 0 0] 47, Obj.cells #[.slice none 0 0] 47, Obj.cells #[.int .i64 0] 3] w
  have hb := heap_allocs [Obj.cells #[A.sv, A.lv] 53, Obj.cells (numRow A.n fun _ => 0).toArray 3, Obj.cells #[.slice (some ⟨w.heap.size + 1, 0, none⟩) A.n A.n] 47, Obj.cells (numRow A.n fun _ => 0).toArray 3, Obj.cells #[.slice (some ⟨w.heap.size + 3, 0, none⟩) A.n A.n] 47, Obj.cells (numRow A.n fun _ => 0).toArray 3, Obj.cells #[.slice (some ⟨w.heap.size + 5, 0, none⟩) A.n A.n] 47, Obj.cells (boolRow A.n fun _ => false).toArray 4, Obj.cells #[.slice (some ⟨w.heap.size + 7, 0, none⟩) A.n A.n] 37, Obj.cells #[.slice none 0 0] 47, Obj.cells #[.slice none 0 0] 47, Obj.cells #[.int .i64 0] 3] w
  rw [← e] at hb hc
  refine ⟨inv_start _ _, ⟨hb 0 _ rfl, hb 1 _ rfl, hb 2 _ rfl, hb 3 _ rfl, hb 4 _ rfl, hb 5 _ rfl, hb 6 _ rfl, hb 7 _ rfl, hb 8 _ rfl, hb 9 _ rfl, hb 10 _ rfl, hb 11 _ rfl, ⟨rfl, .inl ⟨rfl, rfl⟩⟩, ⟨rfl, .inl ⟨rfl, rfl⟩⟩, fun g h => by cases h⟩, fun v h => absurd rfl h, fun v => by simp [stk], K.stab hfs hc (fun _ h => h.elim), ?_, hA.chg hc (fun _ h => h.elim), hc.mono (fun _ h => h.elim), fun k h => .inl h, hN, rfl⟩
  intro k hd hk
  have := (K.lt hfs hd).1
  rcases hk with hk | hk | hk
  · omega
  · cases hk
  · cases hk

set_option maxHeartbeats 4000000 in
set_option maxRecDepth 100000 in
theorem components_any (A : Adj) (N0 : Nat) (FS : World → (Nat → Prop) → List (List Nat) → Prop) (q0 q1 q2 : Value) (K : Keeper N0 A.n FS (q0, q1, q2)) (hok : A.Ok) (w : World) (hA : A.At w N0) (hN : N0 ≤ w.heap.size) (D0 : Nat → Prop) (hfs : FS w D0 []) (br cr : Nat) (hroots : ∀ j, j < A.n → w.cell? ⟨br, j, none⟩ = some (.int .i64 (j : Nat))) (hbd : ¬ D0 br) :
    Calls Try.prog 40 #[.agg #[A.sv, A.lv], .slice (some ⟨br, 0, none⟩) A.n cr, .slice none 0 0, .func (.func 41) #[] #[q0, q1, q2]] w
      fun e w' => e = .returned (.tuple #[]) ∧ ∃ D cs, FS w' D cs ∧ Chg D0 w w' ∧ (cs.flatten.Nodup ∧ (∀ v, v ∈ cs.flatten ↔ v < A.n) ∧ ∀ c ∈ cs, (∀ u ∈ c, ∀ v ∈ c, Tj.Reach A.adj u v) ∧ ∀ u ∈ c, ∀ v, Tj.Reach A.adj u v → Tj.Reach A.adj v u → v ∈ c) := by
  have hn := hA.n0
  have m1 := make47 A.n (by omega)
  have m2 := make37 A.n (by omega)
  have hmf : ∀ (fn : Fn) (first cap : Array Value) (w : World), (Instr.makeFunc fn first cap).run Try.prog w = .ok (.func fn first cap) w := fun _ _ _ _ => rfl
  have HA : Hid (A.At w N0) := hA
  have HR : Hid (∀ j, j < A.n → w.cell? ⟨br, j, none⟩ = some (.int .i64 (j : Nat))) := hroots
  have HK : Hid (Keeper N0 A.n FS (q0, q1, q2)) := K
  have HO : Hid A.Ok := hok
  have HF : Hid (FS w D0 []) := hfs
  have HB : Hid (¬ D0 br) := hbd
  clear hA hroots K hok hfs hbd
  have H0 : Hid (∀ w12, w12 = _ → Run A N0 FS w D0 w12 D0 [] (fun _ => 0) (fun _ => 0) (fun _ => 0) (fun _ => 0) (fun _ => false) [] 0 (.slice none 0 0) (.slice none 0 0)) := fun w12 e => run_start HK.out HA.out hN HF.out e
  unfold Adj.sv Adj.lv at *
  go_enter Try.func40, Try.ntmps40
  go_wp2
  simp only [Nat.add_assoc, Nat.reduceAdd]
  have H1a := H0.out _ rfl
  simp only [List.foldl] at H1a
  have H1 : Hid (Run A N0 FS w D0 _ D0 [] (fun _ => 0) (fun _ => 0) (fun _ => 0) (fun _ => 0) (fun _ => false) [] 0 (.slice none 0 0) (.slice none 0 0)) := H1a
  clear H0 H1a m1 m2
  go_loopg [41] A.n (fun g i wr => ∃ (k : Nat) (D : Nat → Prop) (cs : List (List Nat)) (ord low nx nxt : Nat → Nat) (on : Nat → Bool) (cnt : Nat) (vp vs : Value), k ≤ A.n ∧ g = A.n - k ∧ i = .int .i64 k ∧ Hid (Run A N0 FS w D0 wr D cs ord low nx nxt on [] cnt vp vs ∧ ∀ v, v < k → ord v ≠ 0))
  case atStart => exact ⟨0, D0, [], _, _, _, _, _, 0, _, _, Nat.zero_le _, rfl, rfl, H1.out, fun v h => absurd h (Nat.not_lt_zero _)⟩
  case round =>
    obtain ⟨k, D, cs, ord, low, nx, nxt, on, cnt, vp, vs, hk, rfl, rfl, HR1⟩ := hrel
    clear H1
    by_cases hkn : k < A.n
    · have hkz : (k : Int) < (A.n : Int) := by omega
      have c0 : wr.cell? ⟨br, k, none⟩ = some (.int .i64 k) := HR1.out.1.chg.cell (HR.out k hkn) HB.out
      have c1 := HR1.out.1.st.oB.cell (i := 0) rfl
      have c2 := HR1.out.1.st.oA.cell (numRow_at ord hkn)
      by_cases h0 : ord k = 0
      · rw [h0] at c2
        have hl := HR1.out.1.lens
        have HC : Hid (St A w.heap.size wr ord low nxt on [] [] cnt vp vs) := by have := HR1.out.1.st; exact (by simpa [stk] using this : St A w.heap.size wr ord low nxt on [] [] cnt vp vs)
        have HAt : Hid (A.At wr w.heap.size) := HR1.out.1.adj.up hN
        go_wp2_with (go_at_call 53; refine (reach_any A w.heap.size wr ord low nxt on [] [] cnt vp vs k hkn HAt.out HC.out (by simp) (by simp) (by omega)).mono ?_; rintro e w1 ⟨rfl, vp', vs', hs, hc, hf⟩; have HB1 : Hid (Run A N0 FS w D0 w1 D cs (upd ord k (cnt + 1)) (upd low k (cnt + 1)) nx (upd nxt k (A.st k)) (updB on k true) [(k, [])] (cnt + 1) vp' vs' ∧ ∀ v, v < k + 1 → upd ord k (cnt + 1) v ≠ 0) := ⟨HR1.out.1.begin HK.out k hkn h0 hs hc hf, fun v hv => by (by_cases e : v = k; (subst e; rw [upd_same]; omega); (rw [upd_other _ _ e]; exact HR1.out.2 v (by omega)))⟩; clear hs hc hf)
        clear c0 c1 c2 HC HAt hl HR1
        go_loopg [19] (2 * left A.n A.adj nx + 1) (fun g _ wi => ∃ (D : Nat → Prop) (cs : List (List Nat)) (ord low nx nxt : Nat → Nat) (on : Nat → Bool) (segs : List (Nat × List Nat)) (cnt : Nat) (vp vs : Value), Hid (Run A N0 FS w D0 wi D cs ord low nx nxt on segs cnt vp vs ∧ (∀ v, v < k + 1 → ord v ≠ 0) ∧ g = 2 * left A.n A.adj nx + segs.length))
        case atStart => exact ⟨D, cs, _, _, nx, _, _, [(k, [])], cnt + 1, vp', vs', HB1.out.1, HB1.out.2, rfl⟩
        case round =>
          clear HB1
          obtain ⟨D1, cs1, ord1, low1, nx1, nxt1, on1, segs1, cnt1, vp1, vs1, HI⟩ := hrel
          cases segs1 with
          | nil =>
            obtain ⟨a1, c1, e1⟩ := HI.out.1.pathNil
            subst e1
            have d0 := HI.out.1.st.pB.cell (i := 0) rfl
            go_wp2
            go_roundg (A.n - (k + 1))
            case measure => go_light; omega
            case rel =>
              go_light
              exact ⟨k + 1, D1, cs1, ord1, low1, nx1, nxt1, on1, cnt1, _, vs1, by omega, rfl, by go_num, HI.out.1, HI.out.2.1⟩
          | cons s1 rest =>
            obtain ⟨p, r⟩ := s1
            obtain ⟨gp, cp, e1, hcp, d1, hgp, d2⟩ := HI.out.1.pathTop
            subst e1
            have hp : p < A.n := HI.out.1.inv.inr p ((HI.out.1.inv.reached p).1 (List.mem_append_left _ (by simp [stk])))
            have d0 := HI.out.1.st.pB.cell (i := 0) rfl
            have d3 := HI.out.1.st.xB.cell (i := 0) rfl
            have d4 := HI.out.1.st.xA.cell (numRow_at nxt1 hp)
            have f4 := HI.out.1.st.xA.free p
            have d5 := HI.out.1.st.aB.cell (i := 0) rfl
            have d6 := HI.out.1.adj.sc (p + 1) (by omega)
            have hst := HI.out.1.adj.st0 (p + 1)
            unfold Adj.sv at d5
            have hnx := HI.out.1.nxtE p ((HI.out.1.inv.reached p).1 (List.mem_append_left _ (by simp [stk])))
            have hadj := A.adj_length p
            have hnl := HI.out.1.inv.nxle p
            have hmono := HO.out.mono p hp
            have hlen := HI.out.1.lens
            simp only [List.length_reverse, List.length_map, List.length_cons] at hlen
            have HX : Hid (nxt1 p = A.st p + nx1 p) := hnx
            by_cases hedge : nx1 p < (A.adj p).length
            · have hlt : (nxt1 p : Int) < (A.st (p + 1) : Int) := by omega
              obtain ⟨t, ht⟩ : ∃ t, t = A.li (nxt1 p) := ⟨_, rfl⟩
              have htop := HO.out.top (p + 1) (by omega)
              have hlt2 : (nxt1 p : Int) < (A.st A.n : Int) := by omega
              have d7 := HI.out.1.st.aB.cell (i := 1) rfl
              unfold Adj.lv at d7
              have d8 := HI.out.1.adj.lc (nxt1 p) (by omega)
              rw [← ht] at d8
              have htn : t < A.n := ht ▸ HO.out.li _ (by omega)
              have HT : Hid (t = (A.adj p).getD (nx1 p) 0) := by
                show t = (A.adj p).getD (nx1 p) 0
                rw [A.adj_at p _ hedge, ht, HX.out]
              clear hadj hnl hnx hmono ht htop
              have HN : Hid (∀ j, Run A N0 FS w D0 (wr.drewN j) D1 cs1 ord1 low1 nx1 nxt1 on1 ((p, r) :: rest) cnt1 _ vs1) := fun j => HI.out.1.drewN HK.out j
              have HV : Hid (∀ v, v < k + 1 → ord1 v ≠ 0) := HI.out.2.1
              have HG : Hid (gk = 2 * left A.n A.adj nx1 + ((p, r) :: rest).length) := HI.out.2.2
              have HL : Hid (left A.n A.adj nx1 = left A.n A.adj (upd nx1 p (nx1 p + 1)) + 1) := left_upd hp hedge
              clear HI
              go_wp2
              go_quiet (fail)
              go_wp2
              go_quiet (fail)
              go_upto_region 19 with (fail)
              refine atWorld (fun W' => ∃ w1, W' = w1.setCell ⟨w.heap.size + 5, p, none⟩ (.int .i64 (nxt1 p + 1)) ∧ Hid (Run A N0 FS w D0 w1 D1 cs1 ord1 low1 nx1 nxt1 on1 ((p, r) :: rest) cnt1 (.slice (some ⟨gp, 0, none⟩) (rest.length + 1) cp) vs1)) ⟨_, rfl, HN.out _⟩ ?_
              rintro W' ⟨w1, rfl, HW1⟩
              clear d0 d1 d2 d3 d4 d5 d6 d7 d8 f4 HN
              have d9 := HW1.out.st.oB.cell (i := 0) rfl
              have d10 := HW1.out.st.oA.cell (numRow_at ord1 htn)
              by_cases hord : ord1 t = 0
              · rw [hord] at d10
                have HS2 : Hid (St A w.heap.size (w1.setCell ⟨w.heap.size + 5, p, none⟩ (.int .i64 (nxt1 p + 1))) ord1 low1 (upd nxt1 p (nxt1 p + 1)) on1 (((p, r) :: rest).map Prod.fst).reverse (stk ((p, r) :: rest)).reverse cnt1 (.slice (some ⟨gp, 0, none⟩) (rest.length + 1) cp) vs1) := HW1.out.st.setNxt p (nxt1 p + 1)
                have HC2 : Hid (Chg (Foot w.heap.size (.slice (some ⟨gp, 0, none⟩) (rest.length + 1) cp) vs1) w1 (w1.setCell ⟨w.heap.size + 5, p, none⟩ (.int .i64 (nxt1 p + 1)))) := (Chg.setCell w1 ⟨w.heap.size + 5, p, none⟩ (.int .i64 (nxt1 p + 1))).mono (foot_in (by omega))
                have HA2 : Hid (A.At (w1.setCell ⟨w.heap.size + 5, p, none⟩ (.int .i64 (nxt1 p + 1))) w.heap.size) := (HW1.out.keep HK.out HC2.out).2.1.up hN
                have hll := HW1.out.lens
                go_wp2_with (go_at_call 53; refine (reach_any A w.heap.size _ ord1 low1 (upd nxt1 p (nxt1 p + 1)) on1 _ _ cnt1 _ vs1 t htn HA2.out HS2.out (by omega) (by omega) (by omega)).mono ?_; rintro e w3 ⟨rfl, vp3, vs3, hs, hc, hf⟩; have HB3 : Hid (Run A N0 FS w D0 w3 D1 cs1 (upd ord1 t (cnt1 + 1)) (upd low1 t (cnt1 + 1)) (upd nx1 p (nx1 p + 1)) (upd (upd nxt1 p (nxt1 p + 1)) t (A.st t)) (updB on1 t true) ((t, []) :: (p, r) :: rest) (cnt1 + 1) vp3 vs3) := HW1.out.descend HK.out hedge t HT.out htn hord hs (HC2.out.trans hc (fun b h => .inl h)) (fun b h => (hf b h).elim (fun h => .inl h) (fun h => .inr (Nat.le_trans HC2.out.size h))); clear hs hc hf)
                go_roundg (2 * left A.n A.adj (upd nx1 p (nx1 p + 1)) + ((t, []) :: (p, r) :: rest).length)
                case measure => 
                  have h1 := HG.out
                  have h2 := HL.out
                  go_light
                  simp only [List.length_cons] at h1 ⊢
                  omega
                case rel =>
                  refine ⟨D1, cs1, _, _, _, _, _, (t, []) :: (p, r) :: rest, _, _, _, HB3.out, ?_, rfl⟩
                  intro v hv
                  by_cases e : v = t
                  · subst e; rw [upd_same]; omega
                  · rw [upd_other _ _ e]; exact HV.out v hv
              · have hoz : ¬ ((ord1 t : Int) = 0) := by omega
                have d11 := HW1.out.st.sB.cell (i := 0) rfl
                have d12 := HW1.out.st.sA.cell (boolRow_at on1 htn)
                cases hon : on1 t
                · rw [hon] at d12
                  have HS := HW1.out.seen HK.out hedge t HT.out hord hon
                  have HS : Hid (Run A N0 FS w D0 (w1.setCell ⟨w.heap.size + 5, p, none⟩ (.int .i64 (nxt1 p + 1))) D1 cs1 ord1 low1 (upd nx1 p (nx1 p + 1)) (upd nxt1 p (nxt1 p + 1)) on1 ((p, r) :: rest) cnt1 (.slice (some ⟨gp, 0, none⟩) (rest.length + 1) cp) vs1) := HS
                  go_wp2
                  go_roundg (2 * left A.n A.adj (upd nx1 p (nx1 p + 1)) + ((p, r) :: rest).length)
                  case measure => 
                    have h1 := HG.out
                    have h2 := HL.out
                    go_light
                    simp only [List.length_cons] at h1 ⊢
                    omega
                  case rel => exact ⟨D1, cs1, _, _, _, _, _, (p, r) :: rest, _, _, _, HS.out, HV.out, rfl⟩
                · rw [hon] at d12
                  have d13 := HW1.out.st.lB.cell (i := 0) rfl
                  have d14 := HW1.out.st.lA.cell (numRow_at low1 hp)
                  have f14 := HW1.out.st.lA.free p
                  by_cases hmin : ord1 t < low1 p
                  · have hmz : (ord1 t : Int) < (low1 p : Int) := by omega
                    have HS : Hid (Run A N0 FS w D0 ((w1.setCell ⟨w.heap.size + 5, p, none⟩ (.int .i64 (nxt1 p + 1))).setCell ⟨w.heap.size + 3, p, none⟩ (.int .i64 (ord1 t : Nat))).drew D1 cs1 ord1 (upd low1 p (ord1 t)) (upd nx1 p (nx1 p + 1)) (upd nxt1 p (nxt1 p + 1)) on1 ((p, r) :: rest) cnt1 (.slice (some ⟨gp, 0, none⟩) (rest.length + 1) cp) vs1) := (HW1.out.back HK.out hedge t HT.out hord hon (ord1 t) (by omega)).drew HK.out
                    go_wp2
                    go_region
                    go_wp2
                    go_roundg (2 * left A.n A.adj (upd nx1 p (nx1 p + 1)) + ((p, r) :: rest).length)
                    case measure => 
                      have h1 := HG.out
                      have h2 := HL.out
                      go_light
                      simp only [List.length_cons] at h1 ⊢
                      omega
                    case rel => exact ⟨D1, cs1, _, _, _, _, _, (p, r) :: rest, _, _, _, HS.out, HV.out, rfl⟩
                  · have hmz : ¬ ((ord1 t : Int) < (low1 p : Int)) := by omega
                    have HS : Hid (Run A N0 FS w D0 ((w1.setCell ⟨w.heap.size + 5, p, none⟩ (.int .i64 (nxt1 p + 1))).setCell ⟨w.heap.size + 3, p, none⟩ (.int .i64 (low1 p : Nat))).drew D1 cs1 ord1 (upd low1 p (low1 p)) (upd nx1 p (nx1 p + 1)) (upd nxt1 p (nxt1 p + 1)) on1 ((p, r) :: rest) cnt1 (.slice (some ⟨gp, 0, none⟩) (rest.length + 1) cp) vs1) := (HW1.out.back HK.out hedge t HT.out hord hon (low1 p) (by omega)).drew HK.out
                    go_wp2
                    go_region
                    go_wp2
                    go_roundg (2 * left A.n A.adj (upd nx1 p (nx1 p + 1)) + ((p, r) :: rest).length)
                    case measure => 
                      have h1 := HG.out
                      have h2 := HL.out
                      go_light
                      simp only [List.length_cons] at h1 ⊢
                      omega
                    case rel => exact ⟨D1, cs1, _, _, _, _, _, (p, r) :: rest, _, _, _, HS.out, HV.out, rfl⟩
            · have hzz : ¬ ((nxt1 p : Int) < (A.st (p + 1) : Int)) := by omega
              have HFin : Hid (nx1 p = (A.adj p).length) := (by omega : nx1 p = (A.adj p).length)
              have HN : Hid (∀ j, Run A N0 FS w D0 (wr.drewN j) D1 cs1 ord1 low1 nx1 nxt1 on1 ((p, r) :: rest) cnt1 _ vs1) := fun j => HI.out.1.drewN HK.out j
              have HV : Hid (∀ v, v < k + 1 → ord1 v ≠ 0) := HI.out.2.1
              have HG : Hid (gk = 2 * left A.n A.adj nx1 + ((p, r) :: rest).length) := HI.out.2.2
              have f0 := HI.out.1.st.pB.free 0
              clear HI hadj hnl hnx hmono
              go_wp2
              go_quiet (fail)
              go_upto_if 129 with (fail)
              refine atWorld (fun W' => ∃ w1, W' = w1.setCell ⟨w.heap.size + 9, 0, none⟩ (.slice (some ⟨gp, 0, none⟩) rest.length cp) ∧ Hid (Run A N0 FS w D0 w1 D1 cs1 ord1 low1 nx1 nxt1 on1 ((p, r) :: rest) cnt1 (.slice (some ⟨gp, 0, none⟩) (rest.length + 1) cp) vs1)) ⟨_, rfl, HN.out _⟩ ?_
              rintro W' ⟨w1, rfl, HW1⟩
              clear d0 d1 d2 d3 d4 d5 d6 f4 f0 HN
              go_cut [21] (fun _ wc => ∃ low2, Hid (Mid A N0 FS w D0 w1 wc D1 cs1 ord1 low1 low2 nx1 nxt1 on1 p r rest cnt1 gp cp vs1))
              case first =>
                have hg9 : ¬ (gp = w.heap.size + 9) := by omega
                have hg9' : ¬ (w.heap.size + 9 = gp) := by omega
                cases rest with
                | nil =>
                  go_wp2
                  go_meet
                  case rel => exact ⟨low1, Mid.nil HW1.out⟩
                | cons s2 rest2 =>
                  obtain ⟨q, t⟩ := s2
                  simp only [List.length_cons] at hcp hlen ⊢
                  have hrl : rest2.length ≤ 1048576 := by omega
                  obtain ⟨gp', cp', e1, _, _, _, d2⟩ := HW1.out.pathTop
                  cases e1
                  have d3 := d2 q t rest2 rfl
                  clear d2
                  have hq : q < A.n := HW1.out.inv.inr q ((HW1.out.inv.reached q).1 (List.mem_append_left _ (by simp [stk])))
                  have d0 := HW1.out.st.pB.cell (i := 0) rfl
                  have d4 := HW1.out.st.lB.cell (i := 0) rfl
                  have d5 := HW1.out.st.lA.cell (numRow_at low1 hp)
                  have d6 := HW1.out.st.lA.cell (numRow_at low1 hq)
                  have f6 := HW1.out.st.lA.free q
                  by_cases hmin : low1 p < low1 q
                  · have hmz : (low1 p : Int) < (low1 q : Int) := by omega
                    have HM : Hid (∃ low2, Hid (Mid A N0 FS w D0 w1 ((w1.setCell ⟨w.heap.size + 9, 0, none⟩ (.slice (some ⟨gp, 0, none⟩) (rest2.length + 1) cp)).setCell ⟨w.heap.size + 3, q, none⟩ (.int .i64 (low1 p))).drew D1 cs1 ord1 low1 low2 nx1 nxt1 on1 p r ((q, t) :: rest2) cnt1 gp cp vs1)) := ⟨_, Mid.cons HW1.out HK.out HFin.out (low1 p) (by omega)⟩
                    go_wp2
                    go_region
                    go_wp2
                    go_meet
                    case rel => exact HM.out
                  · have hmz : ¬ ((low1 p : Int) < (low1 q : Int)) := by omega
                    have HM : Hid (∃ low2, Hid (Mid A N0 FS w D0 w1 ((w1.setCell ⟨w.heap.size + 9, 0, none⟩ (.slice (some ⟨gp, 0, none⟩) (rest2.length + 1) cp)).setCell ⟨w.heap.size + 3, q, none⟩ (.int .i64 (low1 q))).drew D1 cs1 ord1 low1 low2 nx1 nxt1 on1 p r ((q, t) :: rest2) cnt1 gp cp vs1)) := ⟨_, Mid.cons HW1.out HK.out HFin.out (low1 q) (by omega)⟩
                    go_wp2
                    go_region
                    go_wp2
                    go_meet
                    case rel => exact HM.out
              case rest =>
                obtain ⟨low2, HM⟩ := hcut
                have d1 := HM.out.st.lB.cell (i := 0) rfl
                have d2 := HM.out.st.lA.cell (numRow_at low2 hp)
                have d3 := HM.out.st.oB.cell (i := 0) rfl
                have d4 := HM.out.st.oA.cell (numRow_at ord1 hp)
                have HMN : Hid (∀ j, Mid A N0 FS w D0 w1 (wc.drewN j) D1 cs1 ord1 low1 low2 nx1 nxt1 on1 p r rest cnt1 gp cp vs1) := fun j => HM.out.drewN HK.out j
                by_cases hroot : low2 p = ord1 p
                · have hrz : (low2 p : Int) = (ord1 p : Int) := by omega
                  have HE : Hid (low1 p = ord1 p) := by have := HM.out.lowp; exact (by omega : low1 p = ord1 p)
                  have e2 : low2 = low1 := HM.out.eq HE.out
                  subst e2
                  go_wp2
                  go_quiet (fail)
                  go_upto_region 29 with (fail)
                  refine atWorld (fun W' => Hid (Mid A N0 FS w D0 w1 W' D1 cs1 ord1 low2 low2 nx1 nxt1 on1 p r rest cnt1 gp cp vs1)) (HMN.out _) ?_
                  rintro wd HD
                  clear d1 d2 d3 d4 HMN HM
                  obtain ⟨gs, ck, e1, hck, hgs, HSC⟩ := HD.out.stackTop
                  subst e1
                  have d0 := HD.out.st.kB.cell (i := 0) rfl
                  have hsl : (stk rest).length + (r.length + 1) ≤ A.n := by
                    have h1 := hlen.2.1
                    simp [stk] at h1
                    omega
                  obtain ⟨i0, hi0⟩ : ∃ i0, i0 = (stk rest).length := ⟨_, rfl⟩
                  rw [← hi0] at d0 hck hsl
                  have HI0 : Hid (i0 = (stk rest).length) := hi0
                  have HND : Hid (p ∉ r) := by
                    intro hm
                    have hnd := (List.nodup_append.1 HW1.out.inv.nodup).1
                    simp only [stk] at hnd
                    exact (List.nodup_append.1 hnd).2.2 p hm p (by simp) rfl
                  clear hi0
                  go_upto_block 5 with (fail)
                  go_cut [22] (fun i wc => i = .int .i64 i0 ∧ wc = wd)
                  case first =>
                    go_wp2
                    go_loopg [22] r.length (fun g i wi => wi = wd ∧ i = .int .i64 (i0 + g : Nat) ∧ g ≤ r.length)
                    case atStart => exact ⟨rfl, by go_num, Nat.le_refl _⟩
                    case round =>
                      obtain ⟨rfl, rfl, hg⟩ := hrel
                      cases gk with
                      | zero =>
                        have d1 : wr.cell? ⟨gs, i0, none⟩ = some (.int .i64 p) := HSC.out _ _ (by rw [HI0.out]; simp)
                        go_wp2
                        go_meet
                        case rel => exact ⟨by go_num, rfl⟩
                      | succ g =>
                        obtain ⟨y, hy⟩ : ∃ y, r.reverse[g]? = some y := ⟨_, List.getElem?_eq_getElem (by simp; omega)⟩
                        have hyp : y ≠ p := fun e => HND.out (by have := List.mem_of_getElem? hy; rw [e] at this; simpa using this)
                        have hyz : ¬ ((y : Int) = (p : Int)) := by omega
                        have d1 : wr.cell? ⟨gs, i0 + (g + 1), none⟩ = some (.int .i64 y) := HSC.out _ _ (by
                          rw [HI0.out, List.getElem?_append_right (by simp)]
                          simpa using hy)
                        clear hy
                        go_wp2
                        go_roundg g
                        case measure => omega
                        case rel => exact ⟨rfl, by go_num, by omega⟩
                  case rest =>
                    obtain ⟨rfl, rfl⟩ := hcut
                    have HCut := HD.out.cut HI0.out
                    have HCut : Hid (St A w.heap.size (wc.setCell ⟨w.heap.size + 10, 0, none⟩ (.slice (some ⟨gs, 0, none⟩) i0 ck)) ord1 low2 nxt1 on1 (rest.map Prod.fst).reverse (stk rest).reverse cnt1 (.slice (some ⟨gp, 0, none⟩) rest.length cp) (.slice (some ⟨gs, 0, none⟩) i0 ck)) := HCut
                    have hsl2 : r.length ≤ 1048576 := by omega
                    have f0 := HD.out.st.kB.free 0
                    go_upto_block 7 with (fail)
                    clear d0 f0
                    have HLt : Hid (∀ x, x ∈ p :: r.reverse → x < A.n) := by
                      intro x hx
                      refine HW1.out.inv.inr x ((HW1.out.inv.reached x).1 (List.mem_append_left _ ?_))
                      simp at hx
                      simp [stk]
                      rcases hx with rfl | hx
                      · exact .inr (.inl rfl)
                      · exact .inl hx
                    have HS0 : Hid (Chg (fun x => w.heap.size ≤ x ∧ x < w.heap.size + 12) wc (wc.setCell ⟨w.heap.size + 10, 0, none⟩ (.slice (some ⟨gs, 0, none⟩) i0 ck))) := (Chg.setCell wc ⟨w.heap.size + 10, 0, none⟩ _).mono (fun b hb => .inl ⟨by simp at hb; omega, by simp at hb; omega⟩)
                    go_wp2
                    go_loopg [176] (r.length + 1) (fun g i wi => ∃ (m : Nat) (on2 : Nat → Bool), m ≤ r.length + 1 ∧ g = r.length + 1 - m ∧ i = .int .i64 m ∧ Hid (St A w.heap.size wi ord1 low2 nxt1 on2 (rest.map Prod.fst).reverse (stk rest).reverse cnt1 (.slice (some ⟨gp, 0, none⟩) rest.length cp) (.slice (some ⟨gs, 0, none⟩) i0 ck) ∧ Chg (fun x => w.heap.size ≤ x ∧ x < w.heap.size + 12) wc wi ∧ ∀ v, on2 v = true ↔ on1 v = true ∧ v ∉ (p :: r.reverse).take m))
                    case atStart => exact ⟨0, on1, Nat.zero_le _, rfl, rfl, HCut.out, HS0.out, fun v => by simp⟩
                    case round =>
                      obtain ⟨m, on2, hm, rfl, rfl, HL2⟩ := hrel
                      clear HCut HS0
                      by_cases hmr : m < r.length + 1
                      · have hmz : (m : Int) < (r.length : Int) + 1 := by omega
                        obtain ⟨x, hx⟩ : ∃ x, (p :: r.reverse)[m]? = some x := ⟨_, List.getElem?_eq_getElem (by simp; omega)⟩
                        have hxn := HLt.out x (List.mem_of_getElem? hx)
                        have d1 : wr.cell? ⟨gs, i0 + m, none⟩ = some (.int .i64 x) := HL2.out.2.1.cell (HSC.out _ _ (by
                          rw [HI0.out, List.getElem?_append_right (by simp)]
                          simpa using hx)) (fun h => by have := h.2; simp at this; omega)
                        have d2 := HL2.out.1.sB.cell (i := 0) rfl
                        have d3 := HL2.out.1.sA.cell (boolRow_at on2 hxn)
                        have f3 := HL2.out.1.sA.free x
                        have HX2 : Hid (∀ v, v ∉ (p :: r.reverse).take (m + 1) ↔ v ∉ (p :: r.reverse).take m ∧ v ≠ x) := fun v => by
                          rw [List.take_add_one, hx]
                          simp only [Option.toList, List.mem_append, List.mem_singleton, not_or]
                        clear hx
                        go_wp2
                        go_roundg (r.length + 1 - (m + 1))
                        case measure => go_light; omega
                        case rel =>
                          refine ⟨m + 1, updB on2 x false, by omega, rfl, by go_num, HL2.out.1.setOn x false, HL2.out.2.1.trans (Chg.setCell _ ⟨w.heap.size + 7, x, none⟩ _) (fun b hb => .inl ⟨by simp at hb; omega, by simp at hb; omega⟩), ?_⟩
                          intro v
                          rw [HX2.out v, ← and_assoc, ← HL2.out.2.2 v]
                          unfold updB
                          by_cases e : v = x
                          · simp [e]
                          · simp [e]
                      · have e : m = r.length + 1 := by omega
                        subst e
                        have HFc : Hid (Chg (Foot w.heap.size (.slice (some ⟨gp, 0, none⟩) (rest.length + 1) cp) (.slice (some ⟨gs, 0, none⟩) (i0 + (r.length + 1)) ck)) w1 wr) := (HD.out.chg.trans HL2.out.2.1 (fun b hb => .inl hb)).mono (fun b hb => .inl (.inl hb))
                        have HFS : Hid (FS wr D1 cs1) := (HW1.out.keep HK.out (HFc.out.mono (fun b hb => .inl (by rw [HI0.out] at hb; exact hb)))).1
                        have HApp : Hid ((cs1 ++ [p :: r.reverse]).flatten.Nodup) := by
                          have := (HW1.out.inv.emit HFin.out HE.out (p :: r.reverse) (List.Perm.trans ((List.reverse_perm r).cons p) (List.perm_append_comm (l₁ := [p]) (l₂ := r)))).nodup
                          exact (List.nodup_append.1 this).2.1
                        have HGs : Hid (¬ D1 gs) := fun hd => HW1.out.ap gs hd (.inr (.inr rfl))
                        have HMem : Hid (∀ j (x : Nat), (p :: r.reverse)[j]? = some x → wr.cell? ⟨gs, i0 + j, none⟩ = some (.int .i64 x)) := fun j x hx => HL2.out.2.1.cell (HSC.out _ _ (by
                          rw [HI0.out, List.getElem?_append_right (by simp)]
                          simpa using hx)) (fun h => by have := h.2; simp at this; omega)
                        go_wp2_with (go_at_call 41; refine (HK.out.found wr D1 cs1 gs i0 (r.length + 1) (ck - i0) (p :: r.reverse) HFS.out (by simp) (by omega) (by omega) HMem.out HGs.out (by omega) HLt.out HApp.out).mono ?_; rintro e w5 ⟨rfl, D', hfs5, hc5, hd5⟩; have HEm : Hid (Run A N0 FS w D0 w5 D' (cs1 ++ [p :: r.reverse]) ord1 low2 nx1 nxt1 on2 rest cnt1 (.slice (some ⟨gp, 0, none⟩) rest.length cp) (.slice (some ⟨gs, 0, none⟩) i0 ck)) := HW1.out.emit HK.out HFin.out HE.out rfl rfl HFc.out HL2.out.1 (fun v => by rw [HL2.out.2.2 v, List.take_of_length_le (by simp), HW1.out.onE v]) hfs5 hc5 hd5; clear hfs5 hc5 hd5)
                        go_roundg (2 * left A.n A.adj nx1 + rest.length)
                        case measure =>
                          have h1 := HG.out
                          go_light
                          simp only [List.length_cons] at h1
                          omega
                        case rel => exact ⟨_, _, _, _, _, _, _, rest, _, _, _, HEm.out, HV.out, rfl⟩
                · have hrz : ¬ ((low2 p : Int) = (ord1 p : Int)) := by omega
                  have HE : Hid (low1 p ≠ ord1 p) := by have := HM.out.lowp; exact (by omega : low1 p ≠ ord1 p)
                  go_wp2
                  go_quiet (fail)
                  go_wp2
                  go_roundg (2 * left A.n A.adj nx1 + rest.length)
                  case measure =>
                    have h1 := HG.out
                    go_light
                    simp only [List.length_cons] at h1
                    omega
                  case rel =>
                    obtain ⟨segs', h1, h2⟩ := (HMN.out _).ne HE.out
                    exact ⟨D1, cs1, _, _, _, _, _, segs', _, _, _, h1, HV.out, by rw [h2]⟩
      · have hz : ¬ ((ord k : Int) = 0) := by omega
        go_wp2
        go_roundg (A.n - (k + 1))
        case measure => go_light; omega
        case rel => 
          go_light
          refine ⟨k + 1, D, cs, ord, low, nx, nxt, on, cnt, vp, vs, by omega, rfl, by go_num, HR1.out.1, fun v hv => ?_⟩
          by_cases e : v = k
          · subst e; exact h0
          · exact HR1.out.2 v (by omega)
    · have e : k = A.n := by omega
      subst e
      go_wp2
      go_end0
      exact ⟨rfl, D, cs, HR1.out.1.fs, HR1.out.1.chg, HR1.out.1.inv.done HR1.out.2⟩
end Go.Proofs.Qxb6616078a
