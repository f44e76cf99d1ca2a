/- Maps from strings, as rows of keys and values that are read as they lie; numberOf, buildGraph. -/
import Derived.Test.Qxb6616078aRead
import Derived.ProofKit
import Derived.Carry
import Derived.Maps.OwnSet
namespace Go.Proofs.Qxb6616078a
open Go.RowKit Go.Maps

/-- An element is read as itself. -/
def raw (v : Value) : Option (DataW Value × List MemPlace) := some (.held v, [])
theorem raw_mk (v : Value) : raw v = some (.held v, []) := rfl
theorem raw_inv {v' v : Value} {ps : List MemPlace} (h : raw v' = some (.held v, ps)) : v' = v := by
  unfold raw at h
  cases h
  rfl
theorem law9 : Keyed Try.prog 9 := string_keyed Try.underlying9
/-- What a string reads as, as a key. -/
def kl (s : List UInt8) : Lit := .string s
theorem key9 {s : List UInt8} (h : s.length ≤ 1048576) : keyOf Try.prog 9 (encStr s) = some (kl s) := by
  have := WideMaps.keyOf_string_mk (P := Try.prog) (s := ⟨s.toArray⟩) Try.underlying9 (by show s.toArray.size ≤ maxLen; unfold maxLen; simp; omega)
  simpa [kl] using this
theorem kl_inj {a b : List UInt8} (h : kl a = kl b) : a = b := by
  unfold kl at h
  simpa using h
theorem kl_key (s : List UInt8) : WideAt.IsKeyLit (kl s) := by
  unfold kl
  simp [WideAt.IsKeyLit]
theorem store_any {wr : World} {B n : Nat} {D : DataW Value} (t e : TypeId) (ht : Try.prog.underlying t = some (.map 9 e)) (h : wr.ownsMap Try.prog 9 raw B n D) (hn : n < 1048576) (s : List UInt8) (hs : s.length ≤ 1048576) (v : Value) :
    ∃ w', (Instr.mapUpdate t (.map (some B)) (encStr s) v).run Try.prog wr = .ok () w' ∧ w'.ownsMap Try.prog 9 raw B (n + 1) (D.put (kl s) (.held v)) ∧ wr.grownBy w' (some B) :=
  h.update law9 ht (by unfold maxLen; omega) (key9 hs) (raw_mk v)
theorem look_any {wr : World} {B n : Nat} {D : DataW Value} (t e : TypeId) (ht : Try.prog.underlying t = some (.map 9 e)) (h : wr.ownsMap Try.prog 9 raw B n D) (s : List UInt8) (hs : s.length ≤ 1048576) (z : Value) (hz : ∀ w, (zeroValue e).run Try.prog w = .ok z w)
    (v : Value) (hat : D.atKey (kl s) (.held z) = .held v) : (Instr.lookup t (.map (some B)) (encStr s) false).run Try.prog wr = .ok v wr := by
  obtain ⟨v', ps, hrun, hv⟩ := h.lookup law9 ht (hz wr) (raw_mk z) (key9 hs)
  rw [hat] at hv
  rw [raw_inv hv] at hrun
  exact hrun
theorem make_sized (t : TypeId) (ht : ∃ k e, Try.prog.underlying t = some (.map k e)) (n : Nat) (w : World) : (Instr.makeMap t (some (.int .i64 n))).run Try.prog w = .ok (.map (some w.heap.size)) (w.alloc (.map #[] 0)) := by
  obtain ⟨k, e, ht⟩ := ht
  simp only [Instr.makeMap, Sem.run_bind, run_underlying ht, Result.andThen_ok]
  rfl
theorem own_chg {wr w2 : World} {B n : Nat} {D : DataW Value} (h : wr.ownsMap Try.prog 9 raw B n D) {F : Nat → Prop} (hb : Chg F wr w2) (hF : ¬ F B) : w2.ownsMap Try.prog 9 raw B n D := by
  obtain ⟨es, clock, hb', r⟩ := h
  exact ⟨es, clock, (hb.block B (lt_of_block hb') hF).trans hb', r⟩

def NumRes (w : World) (e : Ending) (w' : World) : Prop := (∃ b, e = .returned (.map (some b))) ∧ Chg (fun _ => False) w w'

set_option maxHeartbeats 1000000 in
set_option maxRecDepth 100000 in
theorem number25 (w : World) (v : Value) (ss : List (List UInt8)) (h : Sl w v (ss.map encStr)) (hn : ss.length ≤ 4096) (hl : ∀ s ∈ ss, s.length ≤ 1048576) : Calls Try.prog 25 #[v] w (NumRes w) := by
  obtain ⟨a, c, rfl⟩ := h.shape
  rw [List.length_map] at h ⊢
  have HA : Hid (∀ i s, ss[i]? = some s → ∃ b o, a = some ⟨b, o, none⟩ ∧ w.cell? ⟨b, o + i, none⟩ = some (encStr s)) := fun i s hs => h.at (by simp [hs])
  have HL : Hid (∀ s ∈ ss, s.length ≤ 1048576) := hl
  generalize hm : ss.length = m at *
  have HM : Hid (ss.length = m) := hm
  have mm := make_sized 44 ⟨_, _, Try.underlying44⟩ m
  have H0 : Hid ((w.alloc (.map #[] 0)).ownsMap Try.prog 9 raw w.heap.size 0 (.map []) ∧ Chg (fun _ => False) w (w.alloc (.map #[] 0))) := ⟨World.ownsMap_made w Try.prog 9 raw, Chg.alloc _ _ _⟩
  clear h hl hm
  go_enter Try.func25, Try.ntmps25
  go_wp2
  go_loopg [4] m (fun gh s wi => ∃ (k : Nat) (D : DataW Value), k ≤ m ∧ gh = m - k ∧ s = .int .i64 k ∧ Hid (wi.ownsMap Try.prog 9 raw w.heap.size k D ∧ Chg (fun _ => False) w wi))
  case atStart => exact ⟨0, _, Nat.zero_le _, rfl, rfl, H0.out⟩
  case round =>
    obtain ⟨k, D, hk, rfl, rfl, HD⟩ := hrel
    clear H0
    by_cases hkm : k < m
    · have hkz : (k : Int) < (m : Int) := by omega
      obtain ⟨s, hs⟩ : ∃ s, ss[k]? = some s := ⟨_, List.getElem?_eq_getElem (by have := HM.out; omega)⟩
      obtain ⟨b, o, rfl, e1⟩ := HA.out k s hs
      have d1 : wr.cell? ⟨b, o + k, none⟩ = some (encStr s) := HD.out.2.cell e1 (fun h => h)
      obtain ⟨w2, hrun, hown, hgr⟩ := store_any 44 3 Try.underlying44 HD.out.1 (by omega) s (HL.out s (List.mem_of_getElem? hs)) (.int .i64 k)
      have HN : Hid (w2.ownsMap Try.prog 9 raw w.heap.size (k + 1) (D.put (kl s) (.held (.int .i64 k))) ∧ Chg (fun _ => False) w w2) := ⟨hown, HD.out.2.trans (Chg.grown hgr) (fun b hb => .inr (by
        have e : b = w.heap.size := by simpa using hb
        omega))⟩
      clear hs e1 hown hgr
      go_wp2
      go_roundg (m - (k + 1))
      case measure => go_light; omega
      case rel => exact ⟨k + 1, _, by omega, rfl, by go_num, HN.out⟩
    · have e : k = m := by omega
      subst e
      go_wp2
      go_ret
      exact ⟨⟨_, rfl⟩, HD.out.2⟩

/-- A graph: names, a number to each, the edges. -/
def GraphAt (w : World) (g : Nat) (ss : List (List UInt8)) (xss : List (List Value)) : Prop := ∃ nv b dv x y, Blk w g [nv, .map (some b), dv, x, y] 67 ∧ Sl0 w nv (ss.map encStr) ∧ Grid w dv xss
theorem GraphAt.chg {w w1 : World} {g : Nat} {ss : List (List UInt8)} {xss : List (List Value)} (h : GraphAt w g ss xss) (hc : Chg (fun _ => False) w w1) : GraphAt w1 g ss xss := by
  obtain ⟨nv, b, dv, x, y, h1, h2, h3⟩ := h
  exact ⟨nv, b, dv, x, y, h1.chg hc (fun h => h), h2.chg hc, h3.chg hc⟩

def ZZRes (w : World) (nv mv dv : Value) (e : Ending) (w' : World) : Prop := ∃ g x y, e = .returned (.pointer (some ⟨g, 0, none⟩)) ∧ Blk w' g [nv, mv, dv, x, y] 67 ∧ Chg (fun _ => False) w w'

theorem zz30 (w : World) (a1 a2 : Option Addr) (n1 c1 n2 c2 b : Nat) : Calls Try.prog 30 #[.slice a1 n1 c1, .map (some b), .slice a2 n2 c2] w (ZZRes w (.slice a1 n1 c1) (.map (some b)) (.slice a2 n2 c2)) := by
  go_enter Try.func30, Try.ntmps30
  go_wp2
  go_ret
  exact ⟨_, _, _, rfl, Blk.new w [_, _, _, _, _] 67, Chg.alloc _ _ _⟩

def BuildRes (w : World) (ss : List (List UInt8)) (xss : List (List Value)) (e : Ending) (w' : World) : Prop := ∃ g, e = .returned (.pointer (some ⟨g, 0, none⟩)) ∧ GraphAt w' g ss xss ∧ Chg (fun _ => False) w w'

set_option maxRecDepth 100000 in
theorem build12 (w : World) (v1 v2 : Value) (ss : List (List UInt8)) (xss : List (List Value)) (h1 : Sl0 w v1 (ss.map encStr)) (h2 : Grid w v2 xss) (hn : ss.length ≤ 4096) (hl : ∀ s ∈ ss, s.length ≤ 1048576) : Calls Try.prog 12 #[v1, v2] w (BuildRes w ss xss) := by
  obtain ⟨a1, c1, e1⟩ := h1.sl.shape
  obtain ⟨a2, c2, e2, _⟩ := h2.shape
  subst e1
  subst e2
  have HC : Hid (∀ w', w = w' → Calls Try.prog 25 #[.slice a1 (ss.map encStr).length c1] w' (NumRes w')) := fun w' e => by
    subst e
    exact number25 w _ ss h1.sl hn hl
  have H1 : Hid (Sl0 w (.slice a1 (ss.map encStr).length c1) (ss.map encStr)) := h1
  have H2 : Hid (Grid w (.slice a2 xss.length c2) xss) := h2
  clear h1 h2 hl
  generalize (ss.map encStr).length = m at *
  generalize xss.length = n at *
  go_enter Try.func12, Try.ntmps12
  go_wp2_with (first | (go_at_call 25; refine (HC.out _ rfl).mono ?_; rintro e w1 ⟨⟨b, rfl⟩, hc⟩; have HN : Hid (Chg (fun _ => False) w w1) := hc; clear hc) | (go_at_call 30; refine (zz30 _ _ _ _ _ _ _ _).mono ?_; rintro e w2 ⟨g, x, y, rfl, hb, hc⟩; have HR : Hid (Blk w2 g [.slice a1 m c1, .map (some b), .slice a2 n c2, x, y] 67 ∧ Chg (fun _ => False) w1 w2) := ⟨hb, hc⟩; clear hb hc))
  go_ret
  have hc := HN.out.trans HR.out.2 (fun _ h => h.elim)
  exact ⟨g, rfl, ⟨_, _, _, _, _, HR.out.1, H1.out.chg hc, H2.out.chg hc⟩, hc⟩
end Go.Proofs.Qxb6616078a
