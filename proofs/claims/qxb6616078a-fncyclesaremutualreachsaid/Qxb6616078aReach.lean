/- components$1: reach(v). -/
import Derived.Test.Qxb6616078aOwn
import Derived.Test.Qxb6616078aTarjan
import Derived.Deep.RegionWith
import Derived.Deep.QuietTactic
import Derived.BigQuiet
namespace Go.Proofs.Qxb6616078a
open Go.RowKit Tj

/-- The adjacency laid end to end: n vertices; start and list lie in two blocks below B0. -/
structure Adj where
  n : Nat
  st : Nat → Nat
  li : Nat → Nat
  bs : Nat
  cs : Nat
  bl : Nat
  cl : Nat

def Adj.sv (A : Adj) : Value := .slice (some ⟨A.bs, 0, none⟩) (A.n + 1) A.cs
def Adj.lv (A : Adj) : Value := .slice (some ⟨A.bl, 0, none⟩) (A.st A.n) A.cl

structure Adj.At (A : Adj) (w : World) (N0 : Nat) : Prop where
  sc : ∀ j, j ≤ A.n → w.cell? ⟨A.bs, j, none⟩ = some (.int .i64 (A.st j))
  lc : ∀ j, j < A.st A.n → w.cell? ⟨A.bl, j, none⟩ = some (.int .i64 (A.li j))
  bs : A.bs < N0
  bl : A.bl < N0
  st0 : ∀ j, A.st j ≤ 1048576
  n0 : A.n ≤ 1048576

theorem Adj.At.chg {A : Adj} {w w1 : World} {N0 : Nat} {F : Nat → Prop} (h : A.At w N0) (hc : Chg F w w1) (hF : ∀ k, F k → N0 ≤ k) : A.At w1 N0 :=
  ⟨fun j hj => hc.cell (h.sc j hj) (fun hf => absurd (hF _ hf) (Nat.not_le.2 h.bs)), fun j hj => hc.cell (h.lc j hj) (fun hf => absurd (hF _ hf) (Nat.not_le.2 h.bl)), h.bs, h.bl, h.st0, h.n0⟩

/-- What components keeps, block by block. -/
structure St (A : Adj) (B : Nat) (w : World) (ord low nxt : Nat → Nat) (on : Nat → Bool) (path stack : List Nat) (cnt : Nat) (vp vs : Value) : Prop where
  aB : Blk w B [A.sv, A.lv] 53
  oA : Blk w (B + 1) (numRow A.n ord) 3
  oB : Blk w (B + 2) [.slice (some ⟨B + 1, 0, none⟩) A.n A.n] 47
  lA : Blk w (B + 3) (numRow A.n low) 3
  lB : Blk w (B + 4) [.slice (some ⟨B + 3, 0, none⟩) A.n A.n] 47
  xA : Blk w (B + 5) (numRow A.n nxt) 3
  xB : Blk w (B + 6) [.slice (some ⟨B + 5, 0, none⟩) A.n A.n] 47
  sA : Blk w (B + 7) (boolRow A.n on) 4
  sB : Blk w (B + 8) [.slice (some ⟨B + 7, 0, none⟩) A.n A.n] 37
  pB : Blk w (B + 9) [vp] 47
  kB : Blk w (B + 10) [vs] 47
  rB : Blk w (B + 11) [.int .i64 cnt] 3
  pR : w.ownsRow (B + 12) 3 1 vp path.length (nums path)
  kR : w.ownsRow (B + 12) 3 1 vs stack.length (nums stack)
  ap : ∀ g, vp.ownBlock = some g → vs.ownBlock ≠ some g

/-- The blocks that components itself may write. -/
def Foot (B : Nat) (vp vs : Value) (k : Nat) : Prop := (B ≤ k ∧ k < B + 12) ∨ vp.ownBlock = some k ∨ vs.ownBlock = some k

theorem St.chg {A : Adj} {B : Nat} {w w1 : World} {ord low nxt : Nat → Nat} {on : Nat → Bool} {path stack : List Nat} {cnt : Nat} {vp vs : Value} (h : St A B w ord low nxt on path stack cnt vp vs) {F : Nat → Prop} (hc : Chg F w w1) (hF : ∀ k, F k → ¬ Foot B vp vs k) : St A B w1 ord low nxt on path stack cnt vp vs := by
  have hb : ∀ i, i < 12 → ¬ F (B + i) := fun i hi hf => hF _ hf (.inl ⟨by omega, by omega⟩)
  exact ⟨h.aB.chg hc (hb 0 (by omega)), h.oA.chg hc (hb 1 (by omega)), h.oB.chg hc (hb 2 (by omega)), h.lA.chg hc (hb 3 (by omega)), h.lB.chg hc (hb 4 (by omega)), h.xA.chg hc (hb 5 (by omega)), h.xB.chg hc (hb 6 (by omega)), h.sA.chg hc (hb 7 (by omega)), h.sB.chg hc (hb 8 (by omega)), h.pB.chg hc (hb 9 (by omega)), h.kB.chg hc (hb 10 (by omega)), h.rB.chg hc (hb 11 (by omega)),
    Row.chg h.pR hc (fun b e hf => hF b hf (.inr (.inl e))), Row.chg h.kR hc (fun b e hf => hF b hf (.inr (.inr e))), h.ap⟩

section
variable {A : Adj} {B : Nat} {w : World} {ord low nxt : Nat → Nat} {on : Nat → Bool} {path stack : List Nat} {cnt : Nat} {vp vs : Value}

theorem St.pne (h : St A B w ord low nxt on path stack cnt vp vs) {k : Nat} (hk : k < B + 12) : vp.ownBlock ≠ some k := by
  intro e
  rcases Row.look h.pR with ⟨hv, _⟩ | ⟨g, cap, hv, hg, _⟩
  · subst hv; cases e
  · subst hv
    have e' : g = k := by simpa [Value.ownBlock] using e
    omega
theorem St.kne (h : St A B w ord low nxt on path stack cnt vp vs) {k : Nat} (hk : k < B + 12) : vs.ownBlock ≠ some k := by
  intro e
  rcases Row.look h.kR with ⟨hv, _⟩ | ⟨g, cap, hv, hg, _⟩
  · subst hv; cases e
  · subst hv
    have e' : g = k := by simpa [Value.ownBlock] using e
    omega
theorem St.plt (h : St A B w ord low nxt on path stack cnt vp vs) {k : Nat} (e : vp.ownBlock = some k) : k < w.heap.size := by
  rcases Row.look h.pR with ⟨hv, _⟩ | ⟨g, cap, hv, hg, hl, _⟩
  · subst hv; cases e
  · subst hv
    cases e
    exact hl
theorem St.klt (h : St A B w ord low nxt on path stack cnt vp vs) {k : Nat} (e : vs.ownBlock = some k) : k < w.heap.size := by
  rcases Row.look h.kR with ⟨hv, _⟩ | ⟨g, cap, hv, hg, hl, _⟩
  · subst hv; cases e
  · subst hv
    cases e
    exact hl

theorem St.setOrd (h : St A B w ord low nxt on path stack cnt vp vs) (v x : Nat) : St A B (w.setCell ⟨B + 1, v, none⟩ (.int .i64 x)) (upd ord v x) low nxt on path stack cnt vp vs := by
  have hc := Chg.setCell w ⟨B + 1, v, none⟩ (.int .i64 x)
  have hp := h.pne (k := B + 1) (by omega)
  have hk := h.kne (k := B + 1) (by omega)
  exact ⟨h.aB.chg hc (by simp), by have := h.oA.set v (.int .i64 x); rwa [numRow_set] at this, h.oB.chg hc (by simp), h.lA.chg hc (by simp), h.lB.chg hc (by simp), h.xA.chg hc (by simp), h.xB.chg hc (by simp), h.sA.chg hc (by simp), h.sB.chg hc (by simp), h.pB.chg hc (by simp), h.kB.chg hc (by simp), h.rB.chg hc (by simp), Row.chg h.pR hc (fun b e hf => hp (by rw [e, hf])), Row.chg h.kR hc (fun b e hf => hk (by rw [e, hf])), h.ap⟩
theorem St.setLow (h : St A B w ord low nxt on path stack cnt vp vs) (v x : Nat) : St A B (w.setCell ⟨B + 3, v, none⟩ (.int .i64 x)) ord (upd low v x) nxt on path stack cnt vp vs := by
  have hc := Chg.setCell w ⟨B + 3, v, none⟩ (.int .i64 x)
  have hp := h.pne (k := B + 3) (by omega)
  have hk := h.kne (k := B + 3) (by omega)
  exact ⟨h.aB.chg hc (by simp), h.oA.chg hc (by simp), h.oB.chg hc (by simp), by have := h.lA.set v (.int .i64 x); rwa [numRow_set] at this, h.lB.chg hc (by simp), h.xA.chg hc (by simp), h.xB.chg hc (by simp), h.sA.chg hc (by simp), h.sB.chg hc (by simp), h.pB.chg hc (by simp), h.kB.chg hc (by simp), h.rB.chg hc (by simp), Row.chg h.pR hc (fun b e hf => hp (by rw [e, hf])), Row.chg h.kR hc (fun b e hf => hk (by rw [e, hf])), h.ap⟩
theorem St.setNxt (h : St A B w ord low nxt on path stack cnt vp vs) (v x : Nat) : St A B (w.setCell ⟨B + 5, v, none⟩ (.int .i64 x)) ord low (upd nxt v x) on path stack cnt vp vs := by
  have hc := Chg.setCell w ⟨B + 5, v, none⟩ (.int .i64 x)
  have hp := h.pne (k := B + 5) (by omega)
  have hk := h.kne (k := B + 5) (by omega)
  exact ⟨h.aB.chg hc (by simp), h.oA.chg hc (by simp), h.oB.chg hc (by simp), h.lA.chg hc (by simp), h.lB.chg hc (by simp), by have := h.xA.set v (.int .i64 x); rwa [numRow_set] at this, h.xB.chg hc (by simp), h.sA.chg hc (by simp), h.sB.chg hc (by simp), h.pB.chg hc (by simp), h.kB.chg hc (by simp), h.rB.chg hc (by simp), Row.chg h.pR hc (fun b e hf => hp (by rw [e, hf])), Row.chg h.kR hc (fun b e hf => hk (by rw [e, hf])), h.ap⟩
theorem St.setOn (h : St A B w ord low nxt on path stack cnt vp vs) (v : Nat) (x : Bool) : St A B (w.setCell ⟨B + 7, v, none⟩ (.bool x)) ord low nxt (updB on v x) path stack cnt vp vs := by
  have hc := Chg.setCell w ⟨B + 7, v, none⟩ (.bool x)
  have hp := h.pne (k := B + 7) (by omega)
  have hk := h.kne (k := B + 7) (by omega)
  exact ⟨h.aB.chg hc (by simp), h.oA.chg hc (by simp), h.oB.chg hc (by simp), h.lA.chg hc (by simp), h.lB.chg hc (by simp), h.xA.chg hc (by simp), h.xB.chg hc (by simp), by have := h.sA.set v (.bool x); rwa [boolRow_set] at this, h.sB.chg hc (by simp), h.pB.chg hc (by simp), h.kB.chg hc (by simp), h.rB.chg hc (by simp), Row.chg h.pR hc (fun b e hf => hp (by rw [e, hf])), Row.chg h.kR hc (fun b e hf => hk (by rw [e, hf])), h.ap⟩
theorem St.setCnt (h : St A B w ord low nxt on path stack cnt vp vs) (x : Nat) : St A B (w.setCell ⟨B + 11, 0, none⟩ (.int .i64 x)) ord low nxt on path stack x vp vs := by
  have hc := Chg.setCell w ⟨B + 11, 0, none⟩ (.int .i64 x)
  have hp := h.pne (k := B + 11) (by omega)
  have hk := h.kne (k := B + 11) (by omega)
  exact ⟨h.aB.chg hc (by simp), h.oA.chg hc (by simp), h.oB.chg hc (by simp), h.lA.chg hc (by simp), h.lB.chg hc (by simp), h.xA.chg hc (by simp), h.xB.chg hc (by simp), h.sA.chg hc (by simp), h.sB.chg hc (by simp), h.pB.chg hc (by simp), h.kB.chg hc (by simp), h.rB.set 0 (.int .i64 x), Row.chg h.pR hc (fun b e hf => hp (by rw [e, hf])), Row.chg h.kR hc (fun b e hf => hk (by rw [e, hf])), h.ap⟩
/-- The path's variable gets another slice, whose row is laid already. -/
theorem St.setPath (h : St A B w ord low nxt on path stack cnt vp vs) {vp' : Value} {path' : List Nat} (hr : w.ownsRow (B + 12) 3 1 vp' path'.length (nums path')) (ha : ∀ g, vp'.ownBlock = some g → vs.ownBlock ≠ some g) : St A B (w.setCell ⟨B + 9, 0, none⟩ vp') ord low nxt on path' stack cnt vp' vs := by
  have hc := Chg.setCell w ⟨B + 9, 0, none⟩ vp'
  have hp : vp'.ownBlock ≠ some (B + 9) := by
    intro e
    rcases Row.look hr with ⟨hv, _⟩ | ⟨g, cap, hv, hg, _⟩
    · subst hv; cases e
    · subst hv
      have e' : g = B + 9 := by simpa [Value.ownBlock] using e
      omega
  have hk := h.kne (k := B + 9) (by omega)
  exact ⟨h.aB.chg hc (by simp), h.oA.chg hc (by simp), h.oB.chg hc (by simp), h.lA.chg hc (by simp), h.lB.chg hc (by simp), h.xA.chg hc (by simp), h.xB.chg hc (by simp), h.sA.chg hc (by simp), h.sB.chg hc (by simp), h.pB.set 0 vp', h.kB.chg hc (by simp), h.rB.chg hc (by simp), Row.chg hr hc (fun b e hf => hp (by rw [e, hf])), Row.chg h.kR hc (fun b e hf => hk (by rw [e, hf])), ha⟩
theorem St.setStack (h : St A B w ord low nxt on path stack cnt vp vs) {vs' : Value} {stack' : List Nat} (hr : w.ownsRow (B + 12) 3 1 vs' stack'.length (nums stack')) (ha : ∀ g, vp.ownBlock = some g → vs'.ownBlock ≠ some g) : St A B (w.setCell ⟨B + 10, 0, none⟩ vs') ord low nxt on path stack' cnt vp vs' := by
  have hc := Chg.setCell w ⟨B + 10, 0, none⟩ vs'
  have hk : vs'.ownBlock ≠ some (B + 10) := by
    intro e
    rcases Row.look hr with ⟨hv, _⟩ | ⟨g, cap, hv, hg, _⟩
    · subst hv; cases e
    · subst hv
      have e' : g = B + 10 := by simpa [Value.ownBlock] using e
      omega
  have hp := h.pne (k := B + 10) (by omega)
  exact ⟨h.aB.chg hc (by simp), h.oA.chg hc (by simp), h.oB.chg hc (by simp), h.lA.chg hc (by simp), h.lB.chg hc (by simp), h.xA.chg hc (by simp), h.xB.chg hc (by simp), h.sA.chg hc (by simp), h.sB.chg hc (by simp), h.pB.chg hc (by simp), h.kB.set 0 vs', h.rB.chg hc (by simp), Row.chg h.pR hc (fun b e hf => hp (by rw [e, hf])), Row.chg hr hc (fun b e hf => hk (by rw [e, hf])), ha⟩

theorem nums_snoc (l : List Nat) (v : Nat) : nums (l ++ [v]) = nums l ++ [.int .i64 v] := by simp [nums]

/-- append onto the path, and the store of what it gives. -/
theorem St.pushPath (h : St A B w ord low nxt on path stack cnt vp vs) {w4 : World} {vp' : Value} {v : Nat} (hc : Chg (fun k => vp.ownBlock = some k) w w4) (hr : w4.ownsRow (B + 12) 3 1 vp' (path.length + 1) (nums path ++ [.int .i64 v])) {g' cap' : Nat} (hvp : vp' = .slice (some ⟨g', 0, none⟩) (path.length + 1) cap') (hg : vp.ownBlock = some g' ∨ w.heap.size ≤ g') :
    St A B (w4.setCell ⟨B + 9, 0, none⟩ vp') ord low nxt on (path ++ [v]) stack cnt vp' vs := by
  have hb : ∀ k, k < B + 12 → ¬ (vp.ownBlock = some k) := fun k hk => h.pne hk
  have hs := Chg.setCell w4 ⟨B + 9, 0, none⟩ vp'
  have hp : ∀ k, k < B + 12 → vp'.ownBlock ≠ some k := by
    intro k hk e
    rcases Row.look hr with ⟨hv, _⟩ | ⟨g, cap, hv, hg, _⟩
    · subst hv; cases e
    · subst hv
      have e' : g = k := by simpa [Value.ownBlock] using e
      omega
  have hk := h.kne (k := B + 9) (by omega)
  refine ⟨(h.aB.chg hc (hb _ (by omega))).chg hs (by simp), (h.oA.chg hc (hb _ (by omega))).chg hs (by simp), (h.oB.chg hc (hb _ (by omega))).chg hs (by simp), (h.lA.chg hc (hb _ (by omega))).chg hs (by simp), (h.lB.chg hc (hb _ (by omega))).chg hs (by simp), (h.xA.chg hc (hb _ (by omega))).chg hs (by simp), (h.xB.chg hc (hb _ (by omega))).chg hs (by simp), (h.sA.chg hc (hb _ (by omega))).chg hs (by simp), (h.sB.chg hc (hb _ (by omega))).chg hs (by simp), (h.pB.chg hc (hb _ (by omega))).set 0 vp', (h.kB.chg hc (hb _ (by omega))).chg hs (by simp), (h.rB.chg hc (hb _ (by omega))).chg hs (by simp), ?_, ?_, ?_⟩
  · rw [nums_snoc, List.length_append]
    exact Row.chg hr hs (fun b e hf => hp (B + 9) (by omega) (by rw [e, hf]))
  · exact Row.chg (Row.chg h.kR hc (fun b e hf => h.ap b hf e)) hs (fun b e hf => hk (by rw [e, hf]))
  · intro g h1 h2
    have e : g' = g := by subst hvp; simpa [Value.ownBlock] using h1
    subst e
    rcases hg with h3 | h3
    · exact h.ap g' h3 h2
    · have := h.klt h2
      omega

theorem St.pushStack (h : St A B w ord low nxt on path stack cnt vp vs) {w4 : World} {vs' : Value} {v : Nat} (hc : Chg (fun k => vs.ownBlock = some k) w w4) (hr : w4.ownsRow (B + 12) 3 1 vs' (stack.length + 1) (nums stack ++ [.int .i64 v])) {g' cap' : Nat} (hvs : vs' = .slice (some ⟨g', 0, none⟩) (stack.length + 1) cap') (hg : vs.ownBlock = some g' ∨ w.heap.size ≤ g') :
    St A B (w4.setCell ⟨B + 10, 0, none⟩ vs') ord low nxt on path (stack ++ [v]) cnt vp vs' := by
  have hb : ∀ k, k < B + 12 → ¬ (vs.ownBlock = some k) := fun k hk => h.kne hk
  have hs := Chg.setCell w4 ⟨B + 10, 0, none⟩ vs'
  have hp : ∀ k, k < B + 12 → vs'.ownBlock ≠ some k := by
    intro k hk e
    rcases Row.look hr with ⟨hv, _⟩ | ⟨g, cap, hv, hg, _⟩
    · subst hv; cases e
    · subst hv
      have e' : g = k := by simpa [Value.ownBlock] using e
      omega
  have hk := h.pne (k := B + 10) (by omega)
  refine ⟨(h.aB.chg hc (hb _ (by omega))).chg hs (by simp), (h.oA.chg hc (hb _ (by omega))).chg hs (by simp), (h.oB.chg hc (hb _ (by omega))).chg hs (by simp), (h.lA.chg hc (hb _ (by omega))).chg hs (by simp), (h.lB.chg hc (hb _ (by omega))).chg hs (by simp), (h.xA.chg hc (hb _ (by omega))).chg hs (by simp), (h.xB.chg hc (hb _ (by omega))).chg hs (by simp), (h.sA.chg hc (hb _ (by omega))).chg hs (by simp), (h.sB.chg hc (hb _ (by omega))).chg hs (by simp), (h.pB.chg hc (hb _ (by omega))).chg hs (by simp), (h.kB.chg hc (hb _ (by omega))).set 0 vs', (h.rB.chg hc (hb _ (by omega))).chg hs (by simp), ?_, ?_, ?_⟩
  · exact Row.chg (Row.chg h.pR hc (fun b e hf => h.ap b e hf)) hs (fun b e hf => hk (by rw [e, hf]))
  · rw [nums_snoc, List.length_append]
    exact Row.chg hr hs (fun b e hf => hp (B + 10) (by omega) (by rw [e, hf]))
  · intro g h1 h2
    have e : g' = g := by subst hvs; simpa [Value.ownBlock] using h2
    subst e
    rcases hg with h3 | h3
    · exact h.ap g' h1 h3
    · have := h.plt h1
      omega
end

theorem foot_in {B : Nat} {vp vs : Value} {w : World} {c i : Nat} (h2 : c < 12) : ∀ b, b = (⟨B + c, i, none⟩ : Addr).block → Foot B vp vs b ∨ w.heap.size ≤ b := fun b hb => .inl (.inl ⟨by subst hb; simp, by subst hb; simpa using h2⟩)

theorem St.foot_ge {A : Adj} {B : Nat} {w : World} {ord low nxt : Nat → Nat} {on : Nat → Bool} {path stack : List Nat} {cnt : Nat} {vp vs : Value} (h : St A B w ord low nxt on path stack cnt vp vs) {k : Nat} (hk : Foot B vp vs k) : B ≤ k := by
  rcases hk with hk | hk | hk
  · omega
  · rcases Nat.lt_or_ge k (B + 12) with h' | h'
    · exact absurd hk (h.pne h')
    · omega
  · rcases Nat.lt_or_ge k (B + 12) with h' | h'
    · exact absurd hk (h.kne h')
    · omega

theorem info3 : (Try.prog.info? 3).map (fun i => (i.zero, i.size, i.bytes)) = some (some (.int .i64 0), 1, 8) := by kernel_rfl

set_option maxHeartbeats 1000000 in
set_option maxRecDepth 100000 in
theorem reach_any (A : Adj) (B : Nat) (w : World) (ord low nxt : Nat → Nat) (on : Nat → Bool) (path stack : List Nat) (cnt : Nat) (vp vs : Value) (v : Nat) (hv : v < A.n) (hA : A.At w B) (h : St A B w ord low nxt on path stack cnt vp vs)
    (hp : path.length ≤ 1048576) (hk : stack.length ≤ 1048576) (hcnt : cnt ≤ 1048576) :
    Calls Try.prog 53 #[.int .i64 v, .pointer (some ⟨B + 11, 0, none⟩), .pointer (some ⟨B + 2, 0, none⟩), .pointer (some ⟨B + 4, 0, none⟩), .pointer (some ⟨B, 0, none⟩), .pointer (some ⟨B + 6, 0, none⟩), .pointer (some ⟨B + 9, 0, none⟩), .pointer (some ⟨B + 10, 0, none⟩), .pointer (some ⟨B + 8, 0, none⟩)] w
      fun e w' => e = .returned (.tuple #[]) ∧ ∃ vp' vs', St A B w' (upd ord v (cnt + 1)) (upd low v (cnt + 1)) (upd nxt v (A.st v)) (updB on v true) (path ++ [v]) (stack ++ [v]) (cnt + 1) vp' vs' ∧ Chg (Foot B vp vs) w w' ∧ (∀ k, Foot B vp' vs' k → Foot B vp vs k ∨ w.heap.size ≤ k) := by
  have c0 := h.rB.cell (i := 0) rfl
  have f0 := h.rB.free 0
  have H : Hid (St A B w ord low nxt on path stack cnt vp vs) := h
  have HA : Hid (A.At w B) := hA
  clear h hA
  go_enter Try.func53, Try.ntmps53
  go_wp2
  have H1 : Hid (St A B (w.setCell ⟨B + 11, 0, none⟩ (.int .i64 (cnt + 1))) ord low nxt on path stack (cnt + 1) vp vs) := H.out.setCnt (cnt + 1)
  have K1 : Hid (Chg (Foot B vp vs) w (w.setCell ⟨B + 11, 0, none⟩ (.int .i64 (cnt + 1)))) := (Chg.setCell w ⟨B + 11, 0, none⟩ _).mono (fun b hb => .inl (.inl ⟨by simp at hb; omega, by simp at hb; omega⟩))
  clear c0 f0
  generalize (w.setCell ⟨B + 11, 0, none⟩ (.int .i64 (cnt + 1))) = w1 at *
  have c0 : w1.cell? ⟨B + 11, 0, none⟩ = some (.int .i64 (cnt + 1)) := H1.out.rB.cell (i := 0) rfl
  have c1 := H1.out.oB.cell (i := 0) rfl
  have c2 := H1.out.lB.cell (i := 0) rfl
  have c3 := H1.out.oA.cell (numRow_at ord hv)
  have c4 := H1.out.lA.cell (numRow_at low hv)
  have f3 := H1.out.oA.free v
  have f4 := H1.out.lA.free v
  go_region
  go_wp2
  have H2 : Hid (St A B ((w1.setCell ⟨B + 1, v, none⟩ (.int .i64 (cnt + 1))).setCell ⟨B + 3, v, none⟩ (.int .i64 (cnt + 1))).drew (upd ord v (cnt + 1)) (upd low v (cnt + 1)) nxt on path stack (cnt + 1) vp vs) := ((H1.out.setOrd v (cnt + 1)).setLow v (cnt + 1)).chg (Chg.drew (fun _ => False) _) (fun _ h => h.elim)
  have K2 : Hid (Chg (Foot B vp vs) w ((w1.setCell ⟨B + 1, v, none⟩ (.int .i64 (cnt + 1))).setCell ⟨B + 3, v, none⟩ (.int .i64 (cnt + 1))).drew) := ((K1.out.trans (Chg.setCell w1 ⟨B + 1, v, none⟩ _) (foot_in (by omega))).trans (Chg.setCell _ ⟨B + 3, v, none⟩ _) (foot_in (by omega))).trans (Chg.drew (fun _ => False) _) (fun _ h => h.elim)
  clear c0 c1 c2 c3 c4 f3 f4
  generalize ((w1.setCell ⟨B + 1, v, none⟩ (.int .i64 (cnt + 1))).setCell ⟨B + 3, v, none⟩ (.int .i64 (cnt + 1))).drew = w2 at *
  clear H1 K1
  have hA2 : A.At w2 B := HA.out.chg K2.out (fun k hk => H.out.foot_ge hk)
  have c1 := H2.out.aB.cell (i := 0) rfl
  have c2 := H2.out.xB.cell (i := 0) rfl
  have c3 := H2.out.xA.cell (numRow_at nxt hv)
  have f3 := H2.out.xA.free v
  have c4 := hA2.sc v (by omega)
  unfold Adj.sv at c1
  clear hA2
  have c5 := H2.out.pB.cell (i := 0) rfl
  go_region
  go_wp2_with (first | (at_builtin; refine stopHere ?_))
  change wpList _ _ _ _ _ _
  have H3 : Hid (St A B (w2.setCell ⟨B + 5, v, none⟩ (.int .i64 (A.st v))) (upd ord v (cnt + 1)) (upd low v (cnt + 1)) (upd nxt v (A.st v)) on path stack (cnt + 1) vp vs) := H2.out.setNxt v (A.st v)
  have K3 : Hid (Chg (Foot B vp vs) w (w2.setCell ⟨B + 5, v, none⟩ (.int .i64 (A.st v)))) := K2.out.trans (Chg.setCell w2 ⟨B + 5, v, none⟩ _) (foot_in (by omega))
  have e3 : (w2.setCell ⟨B + 5, v, none⟩ (.int .i64 (A.st v))).heap.size = w2.heap.size := by simp
  clear c1 c2 c3 c4 c5 f3
  generalize (w2.setCell ⟨B + 5, v, none⟩ (.int .i64 (A.st v))) = w3 at *
  rw [← e3]
  clear H2 K2 e3
  refine wp_push (w := w3) ?hg1 (.tmp 28) (.tmp 30) 47 ?hop1 (B + 12) 3 Try.underlying47 info3 rfl vp path.length (nums path) ?hs1 H3.out.pR (.int .i64 v) rfl w3.heap.size ?hx1 (Chg.allocd _ _) (cell_allocd _ _ _) hp (by decide) (by have := H3.out.rB.lt; omega) ?_
  case hg1 => rfl
  case hop1 => rfl
  case hs1 => rfl
  case hx1 => rfl
  intro gp cp w4 hr4 hc4 hg4 hb4
  have H4 : Hid (St A B (w4.setCell ⟨B + 9, 0, none⟩ (.slice (some ⟨gp, 0, none⟩) (path.length + 1) cp)) (upd ord v (cnt + 1)) (upd low v (cnt + 1)) (upd nxt v (A.st v)) on (path ++ [v]) stack (cnt + 1) (.slice (some ⟨gp, 0, none⟩) (path.length + 1) cp) vs) := H3.out.pushPath hc4 hr4 rfl hg4
  have K4 : Hid (Chg (Foot B vp vs) w (w4.setCell ⟨B + 9, 0, none⟩ (.slice (some ⟨gp, 0, none⟩) (path.length + 1) cp))) := (K3.out.trans hc4 (fun b hb => .inl (.inr (.inl hb)))).trans (Chg.setCell w4 ⟨B + 9, 0, none⟩ _) (foot_in (by omega))
  have G4 : Hid (vp.ownBlock = some gp ∨ w.heap.size ≤ gp) := hg4.elim (fun h => Or.inl h) (fun h => Or.inr (Nat.le_trans K3.out.size h))
  have c0 := (H3.out.pB.chg hc4 (H3.out.pne (by omega))).cell (i := 0) rfl
  have f0 := (H3.out.pB.chg hc4 (H3.out.pne (by omega))).free 0
  have c5 := (H3.out.kB.chg hc4 (H3.out.pne (by omega))).cell (i := 0) rfl
  clear hr4 hc4 hg4 hb4
  go_wp2_with (first | (at_builtin; refine stopHere ?_))
  change wpList _ _ _ _ _ _
  have e5 : (w4.setCell ⟨B + 9, 0, none⟩ (.slice (some ⟨gp, 0, none⟩) (path.length + 1) cp)).heap.size = w4.heap.size := by simp
  clear c0 f0 c5 H3 K3
  generalize (w4.setCell ⟨B + 9, 0, none⟩ (.slice (some ⟨gp, 0, none⟩) (path.length + 1) cp)) = w5 at *
  rw [← e5]
  clear e5
  refine wp_push (w := w5) ?hg2 (.tmp 32) (.tmp 34) 47 ?hop2 (B + 12) 3 Try.underlying47 info3 rfl vs stack.length (nums stack) ?hs2 H4.out.kR (.int .i64 v) rfl w5.heap.size ?hx2 (Chg.alloc _ _ _) (cell_alloc1 _ _ _) hk (by decide) (by have := H4.out.rB.lt; omega) ?_
  case hg2 => rfl
  case hop2 => rfl
  case hs2 => rfl
  case hx2 => rfl
  intro gs cs w6 hr6 hc6 hg6 hb6
  have H6 : Hid (St A B (w6.setCell ⟨B + 10, 0, none⟩ (.slice (some ⟨gs, 0, none⟩) (stack.length + 1) cs)) (upd ord v (cnt + 1)) (upd low v (cnt + 1)) (upd nxt v (A.st v)) on (path ++ [v]) (stack ++ [v]) (cnt + 1) (.slice (some ⟨gp, 0, none⟩) (path.length + 1) cp) (.slice (some ⟨gs, 0, none⟩) (stack.length + 1) cs)) := H4.out.pushStack hc6 hr6 rfl hg6
  have K6 : Hid (Chg (Foot B vp vs) w (w6.setCell ⟨B + 10, 0, none⟩ (.slice (some ⟨gs, 0, none⟩) (stack.length + 1) cs))) := (K4.out.trans hc6 (fun b hb => .inl (.inr (.inr hb)))).trans (Chg.setCell w6 ⟨B + 10, 0, none⟩ _) (foot_in (by omega))
  have G6 : Hid (vs.ownBlock = some gs ∨ w.heap.size ≤ gs) := hg6.elim (fun h => Or.inl h) (fun h => Or.inr (Nat.le_trans K4.out.size h))
  have c0 := (H4.out.kB.chg hc6 (H4.out.kne (by omega))).cell (i := 0) rfl
  have f0 := (H4.out.kB.chg hc6 (H4.out.kne (by omega))).free 0
  have c5 := (H4.out.sB.chg hc6 (H4.out.kne (by omega))).cell (i := 0) rfl
  have c6 := (H4.out.sA.chg hc6 (H4.out.kne (by omega))).cell (boolRow_at on hv)
  have f6 := (H4.out.sA.chg hc6 (H4.out.kne (by omega))).free v
  have H7 : Hid (St A B ((w6.setCell ⟨B + 10, 0, none⟩ (.slice (some ⟨gs, 0, none⟩) (stack.length + 1) cs)).setCell ⟨B + 7, v, none⟩ (.bool true)) (upd ord v (cnt + 1)) (upd low v (cnt + 1)) (upd nxt v (A.st v)) (updB on v true) (path ++ [v]) (stack ++ [v]) (cnt + 1) (.slice (some ⟨gp, 0, none⟩) (path.length + 1) cp) (.slice (some ⟨gs, 0, none⟩) (stack.length + 1) cs)) := H6.out.setOn v true
  have K7 : Hid (Chg (Foot B vp vs) w ((w6.setCell ⟨B + 10, 0, none⟩ (.slice (some ⟨gs, 0, none⟩) (stack.length + 1) cs)).setCell ⟨B + 7, v, none⟩ (.bool true))) := K6.out.trans (Chg.setCell _ ⟨B + 7, v, none⟩ _) (foot_in (by omega))
  clear hr6 hc6 hg6 hb6 H4 K4
  go_wp2
  go_end0
  refine ⟨rfl, _, _, H7.out, K7.out, ?_⟩
  rintro k (hk | hk | hk)
  · exact .inl (.inl hk)
  · have e : gp = k := by simpa [Value.ownBlock] using hk
    subst e
    exact G4.out.elim (fun h => .inl (.inr (.inl h))) (fun h => .inr h)
  · have e : gs = k := by simpa [Value.ownBlock] using hk
    subst e
    exact G6.out.elim (fun h => .inl (.inr (.inr h))) (fun h => .inr h)

end Go.Proofs.Qxb6616078a
