/- The storage in memory; the contracts of its methods. -/
import Derived.Test.Qxb6616152aEnts
import Derived.Deep.RegionWith
import Derived.Deep.CutBlock
import Derived.Deep.DeepCutAuto
namespace Go.Proofs.Qxb6616152a
open Go.ChangeShapes Go.WideShapes Go.ChangeAt Go.RowKit

/-- Block b is a storage with those six cells. -/
def Sto (w : World) (b : Nat) (term vote idx st : Int) (dv lv : Value) : Prop :=
  w.heap[b]? = some (.cells #[.int .u64 term, .int .u64 vote, .int .u64 idx, .int .u64 st, dv, lv] 38)

theorem Sto.cells {w : World} {b : Nat} {term vote idx st : Int} {dv lv : Value} (h : Sto w b term vote idx st dv lv) :
    w.cell? ⟨b, 0, none⟩ = some (.int .u64 term) ∧ w.cell? ⟨b, 1, none⟩ = some (.int .u64 vote) ∧ w.cell? ⟨b, 2, none⟩ = some (.int .u64 idx) ∧ w.cell? ⟨b, 3, none⟩ = some (.int .u64 st) ∧ w.cell? ⟨b, 4, none⟩ = some dv ∧ w.cell? ⟨b, 5, none⟩ = some lv ∧ ∀ i, w.frozen? ⟨b, i, none⟩ = false := by
  unfold Sto at h
  refine ⟨?_, ?_, ?_, ?_, ?_, ?_, ?_⟩
  all_goals simp [World.cell?, World.frozen?, h]

theorem Sto.lt {w : World} {b : Nat} {term vote idx st : Int} {dv lv : Value} (h : Sto w b term vote idx st dv lv) : b < w.heap.size := (Array.getElem?_eq_some_iff.1 h).1

theorem Sto.later {w w' : World} {B b : Nat} {term vote idx st : Int} {dv lv : Value} (h : Sto w b term vote idx st dv lv) (hb : Below B w w') (hB : b < B) : Sto w' b term vote idx st dv lv :=
  (hb.block b hB).trans h

theorem grown_set {w : World} {b i : Nat} (v : Value) : w.grownBy (w.setCell ⟨b, i, none⟩ v) (some b) :=
  ⟨rfl, rfl, rfl, by simp, fun k _ hne => Below.heap_setCell w _ v k (fun e => hne (by rw [e]))⟩

theorem grown_trans {a b c : World} {r : Option Nat} (h1 : a.grownBy b r) (h2 : b.grownBy c r) : a.grownBy c r :=
  ⟨h2.os.trans h1.os, h2.tape.trans h1.tape, h2.output.trans h1.output, Nat.le_trans h1.size h2.size, fun k hk hne => (h2.block k (Nat.lt_of_lt_of_le hk h1.size) hne).trans (h1.block k hk hne)⟩

theorem grown_below {a b : World} {B : Nat} (h : Below a.heap.size a b) : a.grownBy b (some B) := ⟨h.os, h.tape, h.output, h.size, fun k hk _ => h.block k hk⟩

set_option maxHeartbeats 400000 in
theorem setTerm_any (b : Nat) (term vote idx st t v : Int) (dv lv : Value) (w : World) (h : Sto w b term vote idx st dv lv) :
    Calls Try.prog 7 #[.pointer (some ⟨b, 0, none⟩), .int .u64 t, .int .u64 v] w fun e w' => e = .returned (.tuple #[]) ∧ Sto w' b t v idx st dv lv ∧ w.grownBy w' (some b) := by
  have H : Hid (Sto w b term vote idx st dv lv) := h
  obtain ⟨c0, c1, c2, c3, c4, c5, hf⟩ := h.cells
  clear h
  go_enter Try.func7, Try.ntmps7
  go_wp2
  go_end0
  refine ⟨rfl, ?_, grown_trans (grown_set _) (grown_set _)⟩
  unfold Sto
  rw [heap_setCell_same _ _ _ _ _ _ (heap_setCell_same _ _ _ _ _ _ H.out)]
  rfl

theorem build38 (a b c d : Int) (dv lv : Value) (w : World) (h : ∃ x y z x' y' z', dv = .slice x y z ∧ lv = .slice x' y' z') : (Instr.build 38 #[(0, .int .u64 a), (1, .int .u64 b), (2, .agg #[.int .u64 c, .int .u64 d, dv]), (3, lv)]).run Try.prog w = .ok (.agg #[.int .u64 a, .int .u64 b, .int .u64 c, .int .u64 d, dv, lv]) w := by
  obtain ⟨x, y, z, x', y', z', rfl, rfl⟩ := h
  exact run_build w 38 _ _ (by kernel_rfl)

theorem build30 (a b : Int) (w : World) : (Instr.build 30 #[(0, .int .u64 a), (1, .int .u64 b)]).run Try.prog w = .ok (.agg #[.int .u64 a, .int .u64 b, .slice none 0 0]) w := run_build w 30 _ _ (by kernel_rfl)

theorem build30' (a b : Int) (x : Option Addr) (y z : Nat) (w : World) : (Instr.build 30 #[(0, .int .u64 a), (1, .int .u64 b), (2, .slice x y z)]).run Try.prog w = .ok (.agg #[.int .u64 a, .int .u64 b, .slice x y z]) w := run_build w 30 _ _ (by kernel_rfl)

set_option maxHeartbeats 400000 in
theorem new_any (term vote idx st : Int) (la : Option Addr) (ll lc : Nat) (w : World) :
    Calls Try.prog 5 #[.int .u64 term, .int .u64 vote, .agg #[.int .u64 idx, .int .u64 st, .slice none 0 0], .slice la ll lc] w fun e w' => e = .returned (.pointer (some ⟨w.heap.size + 1, 0, none⟩)) ∧ Sto w' (w.heap.size + 1) term vote idx st (.slice none 0 0) (.slice la ll lc) ∧ Below w.heap.size w w' ∧ w'.heap.size = w.heap.size + 2 := by
  have hb := fun a b c d la ll lc w => build38 a b c d (.slice none 0 0) (.slice la ll lc) w ⟨_, _, _, _, _, _, rfl, rfl⟩
  go_enter Try.func5, Try.ntmps5
  go_wp2
  go_ret
  refine ⟨rfl, ?_, ((Below.refl _ _).alloc (Nat.le_refl _) _).alloc (by simp) _, by simp⟩
  unfold Sto
  have e := (MapKept.heap_alloc (w.alloc (.cells #[.int .u64 idx, .int .u64 st, .slice none 0 0] 30)) (.cells #[.int .u64 term, .int .u64 vote, .int .u64 idx, .int .u64 st, .slice none 0 0, .slice la ll lc] 38)).1
  rw [World.size_alloc] at e
  exact e

theorem EntsAt.drop {w : World} {a : Option Addr} {len : Nat} {xs : List (Int × Int)} (h : EntsAt w a len xs) (c : Nat) (hc : c ≤ len) : EntsAt w (a.map fun x => x.add (c * 3)) (len - c) (xs.drop c) := by
  obtain ⟨h1, h2, h4⟩ := h
  refine ⟨by simp; omega, by omega, ?_⟩
  rcases h4 with h4 | ⟨b, off, rfl, hcell⟩
  · exact .inl (by omega)
  · refine .inr ⟨b, off + c * 3, ?_, fun j hj => ?_⟩
    · simp [Go.WideShapes.add_plain]
    · have := hcell (3 * c + j) (by omega)
      have e : off + c * 3 + j = off + (3 * c + j) := by omega
      rw [e, this, ← ents_drop, List.getElem?_drop]

/-- What the cells are behind the clone. -/
theorem behind {w w2 : World} {b : Nat} {term vote i0 t0 idx nt : Int} {dv lv : Value} {da : Option Addr} {dl dc : Nat} (h : Sto w b term vote i0 t0 dv lv)
    (hB : Below (w.alloc (.cells #[.int .u64 idx, .int .u64 nt, .slice da dl dc] 30)).drew.heap.size (w.alloc (.cells #[.int .u64 idx, .int .u64 nt, .slice da dl dc] 30)).drew w2) :
    w2.cell? ⟨b, 5, none⟩ = some lv ∧ w2.cell? ⟨b, 2, none⟩ = some (.int .u64 i0) ∧ w2.cell? ⟨b, 3, none⟩ = some (.int .u64 t0) ∧ w2.cell? ⟨b, 4, none⟩ = some dv ∧ (∀ i, w2.frozen? ⟨b, i, none⟩ = false) ∧
      w2.cell? ⟨w.heap.size, 0, none⟩ = some (.int .u64 idx) ∧ w2.cell? ⟨w.heap.size, 1, none⟩ = some (.int .u64 nt) ∧ w2.cell? ⟨w.heap.size, 2, none⟩ = some (.slice da dl dc) ∧ Sto w2 b term vote i0 t0 dv lv := by
  have hlt := h.lt
  have hs : Sto w2 b term vote i0 t0 dv lv := by
    have h1 : Sto (w.alloc (.cells #[.int .u64 idx, .int .u64 nt, .slice da dl dc] 30)).drew b term vote i0 t0 dv lv := h.later (B := w.heap.size) ((Below.refl _ _).alloc (Nat.le_refl _) _).drew hlt
    exact h1.later hB (by simp; omega)
  obtain ⟨c0, c1, c2, c3, c4, c5, hf⟩ := hs.cells
  have hc : ∀ i v, (#[Value.int .u64 idx, .int .u64 nt, .slice da dl dc] : Array Value)[i]? = some v → w2.cell? ⟨w.heap.size, i, none⟩ = some v := by
    intro i v hv
    rw [hB.cell (p := ⟨w.heap.size, i, none⟩) (by simp)]
    simp only [World.cell?_drew]
    rw [World.cell?_alloc_new]
    exact hv
  exact ⟨c5, c2, c3, c4, hf, hc 0 _ rfl, hc 1 _ rfl, hc 2 _ rfl, hs⟩

/-- Entries in another block than the one that is written. -/
theorem EntsAt.set {w : World} {a : Option Addr} {len : Nat} {xs : List (Int × Int)} (h : EntsAt w a len xs) {b i : Nat} (hne : ∀ y, a = some y → y.block ≠ b) (v : Value) : EntsAt (w.setCell ⟨b, i, none⟩ v) a len xs := by
  obtain ⟨h1, h2, h4⟩ := h
  refine ⟨h1, h2, ?_⟩
  rcases h4 with h4 | ⟨b', off, rfl, hc⟩
  · exact .inl h4
  · refine .inr ⟨b', off, rfl, fun j hj => ?_⟩
    have hb : b' ≠ b := hne _ rfl
    rw [World.cell?_of_block (w := w) (a := ⟨b', off + j, none⟩) (Below.heap_setCell w ⟨b, i, none⟩ v b' hb)]
    exact hc j hj

theorem compact_end {w w2 : World} {b : Nat} {term vote i0 t0 idx nt : Int} {dv lv : Value} {da : Option Addr} {dl dc : Nat} (h : Sto w b term vote i0 t0 dv lv)
    (hB : Below (w.alloc (.cells #[.int .u64 idx, .int .u64 nt, .slice da dl dc] 30)).drew.heap.size (w.alloc (.cells #[.int .u64 idx, .int .u64 nt, .slice da dl dc] 30)).drew w2) (hs : Sto w2 b term vote i0 t0 dv lv)
    {a' : Option Addr} {n cap' : Nat} {ys : List (Int × Int)} (hE : EntsAt w2 a' n ys) (hy : ∀ y, a' = some y → (w.alloc (.cells #[.int .u64 idx, .int .u64 nt, .slice da dl dc] 30)).drew.heap.size ≤ y.block) :
    Sto ((((w2.setCell ⟨b, 5, none⟩ (.slice a' n cap')).setCell ⟨b, 2, none⟩ (.int .u64 idx)).setCell ⟨b, 3, none⟩ (.int .u64 nt)).setCell ⟨b, 4, none⟩ (.slice da dl dc)) b term vote idx nt (.slice da dl dc) (.slice a' n cap') ∧
      EntsAt ((((w2.setCell ⟨b, 5, none⟩ (.slice a' n cap')).setCell ⟨b, 2, none⟩ (.int .u64 idx)).setCell ⟨b, 3, none⟩ (.int .u64 nt)).setCell ⟨b, 4, none⟩ (.slice da dl dc)) a' n ys ∧
      w.grownBy ((((w2.setCell ⟨b, 5, none⟩ (.slice a' n cap')).setCell ⟨b, 2, none⟩ (.int .u64 idx)).setCell ⟨b, 3, none⟩ (.int .u64 nt)).setCell ⟨b, 4, none⟩ (.slice da dl dc)) (some b) ∧ (∀ y, a' = some y → y.block ≠ b) := by
  have hlt := h.lt
  have hne : ∀ y, a' = some y → y.block ≠ b := by
    intro y e
    have := hy y e
    simp at this
    omega
  refine ⟨?_, ((((hE.set hne _).set hne _).set hne _).set hne _), ?_, hne⟩
  · unfold Sto
    rw [heap_setCell_same _ _ _ _ _ _ (heap_setCell_same _ _ _ _ _ _ (heap_setCell_same _ _ _ _ _ _ (heap_setCell_same _ _ _ _ _ _ hs)))]
    rfl
  · have h1 : Below w.heap.size w w2 := (((Below.refl _ _).alloc (Nat.le_refl _) _).drew).trans (hB.mono (by simp))
    exact grown_trans (grown_trans (grown_trans (grown_trans (grown_below h1) (grown_set _)) (grown_set _)) (grown_set _)) (grown_set _)

end Go.Proofs.Qxb6616152a
