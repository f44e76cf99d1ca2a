/- A map from strings to values as they lie, as a datum whose elements are tokens: the guide's laws on maps at the reader 'raw'. -/
import Derived.Test.Qxb6614936aRows
import Derived.WalkKit
import Derived.ProofKit
import Derived.Carry
import Derived.Maps.OwnSet
namespace Go.Proofs.Qxb6614936a
open Go.Maps

/-- An element is read as itself. -/
def raw (v : Value) : Option (DataW Value × List MemPlace) := some (.held v, [])

theorem raw_mk (v : Value) : raw v = some (.held v, []) := rfl

theorem raw_inv {v' v : Value} {ps : List MemPlace} (h : raw v' = some (.held v, ps)) : v' = v := by
  unfold raw at h
  cases h
  rfl

theorem law9 : Keyed Try.prog 9 := string_keyed Try.underlying9

/-- What a string reads as, as a key. -/
def kl (s : ByteArray) : Lit := .string s.data.toList

theorem key9 {s : ByteArray} (h : s.size ≤ maxLen) : keyOf Try.prog 9 (.string s) = some (kl s) := WideMaps.keyOf_string_mk Try.underlying9 h

theorem kl_inj {a b : ByteArray} (h : kl a = kl b) : a = b := by
  unfold kl at h
  simp only [Lit.string.injEq] at h
  cases a; cases b
  simp only [ByteArray.mk.injEq]
  exact Array.toList_inj.1 h

theorem kl_key (s : ByteArray) : WideAt.IsKeyLit (kl s) := by
  unfold kl
  simp [WideAt.IsKeyLit]

theorem zero22 (w : World) : (zeroValue 22).run Try.prog w = .ok (.slice none 0 0) w := by kernel_rfl

/-- The store of a composite literal: the very store of 'm[k] = v'. -/
theorem wpList_insert_own {H : Type} {P : Program} (w : World) {ops : Array Oper} {rest : List Oper} {o : Oper} {a : Act} {Q : Exit → Act → World → Prop}
    (hg : o.guard = none) (m x v : Operand) (t : TypeId) (hop : o.op = Op.insert t m x v)
    (k e : TypeId) (K : Keyed P k) (ht : P.underlying t = some (.map k e)) (R : Value → Option (DataW H × List MemPlace)) (b n : Nat) (D : DataW H)
    (hm : a.eval m = .map (some b)) (hown : w.ownsMap P k R b n D) (hn : n < maxLen) (key val : Value) (kl : Lit) (hx : a.eval x = key) (hv : a.eval v = val) (hkey : keyOf P k key = some kl)
    (d : DataW H) (ps : List MemPlace) (hval : R val = some (d, ps))
    (hK : ∀ w', w'.ownsMap P k R b (n + 1) (D.put kl d) → w.grownBy w' (some b) → wpList P ops Q rest (a.put o.dst undef) w') :
    wpList P ops Q (o :: rest) a w := by
  refine wpList_plain hg fun K' hK' => ?_
  obtain ⟨w', hrun, r1, r2⟩ := hown.update K ht hn hkey hval
  unfold Oper.wp
  simp [execOp, hop, hm, hx, hv, hrun, Result.andThen]
  exact hK' _ _ (hK w' r1 r2)

/-- 'v, ok := m[k]' where it is known what stands at the key. -/
theorem wpList_look_raw {P : Program} (w : World) {ops : Array Oper} {rest : List Oper} {o : Oper} {a : Act} {Q : Exit → Act → World → Prop}
    (hg : o.guard = none) (m x : Operand) (t : TypeId) (hop : o.op = Op.lookup t m x true)
    (k e : TypeId) (K : Keyed P k) (ht : P.underlying t = some (.map k e)) {z : Value} (hz : (zeroValue e).run P w = .ok z w) (b n : Nat) (D : DataW Value)
    (hm : a.eval m = .map (some b)) (hown : w.ownsMap P k raw b n D) (key : Value) (kl : Lit) (hx : a.eval x = key) (hkey : keyOf P k key = some kl)
    (v : Value) (hat : D.atKey kl (.held z) = .held v) (ok : Bool) (hhas : Maps.has D kl = ok)
    (hK : wpList P ops Q rest (a.put o.dst (.tuple #[v, .bool ok])) w) :
    wpList P ops Q (o :: rest) a w := by
  refine wpList_lookup_own_ok w hg m x t hop k e K ht raw hz (.held z) [] (raw_mk z) b n D hm hown key kl hx hkey (fun v' ps hv => ?_)
  have e1 : v' = v := by
    rw [hat] at hv
    exact raw_inv hv
  rw [e1, hhas]
  exact hK

/-- 'm[k]' likewise. -/
theorem wpList_look_raw1 {P : Program} (w : World) {ops : Array Oper} {rest : List Oper} {o : Oper} {a : Act} {Q : Exit → Act → World → Prop}
    (hg : o.guard = none) (m x : Operand) (t : TypeId) (hop : o.op = Op.lookup t m x false)
    (k e : TypeId) (K : Keyed P k) (ht : P.underlying t = some (.map k e)) {z : Value} (hz : (zeroValue e).run P w = .ok z w) (b n : Nat) (D : DataW Value)
    (hm : a.eval m = .map (some b)) (hown : w.ownsMap P k raw b n D) (key : Value) (kl : Lit) (hx : a.eval x = key) (hkey : keyOf P k key = some kl)
    (v : Value) (hat : D.atKey kl (.held z) = .held v)
    (hK : wpList P ops Q rest (a.put o.dst v) w) :
    wpList P ops Q (o :: rest) a w := by
  refine wpList_plain hg fun K' hK' => ?_
  obtain ⟨v', ps, hrun, hv⟩ := hown.lookup K ht hz (raw_mk z) hkey
  have e1 : v' = v := by
    rw [hat] at hv
    exact raw_inv hv
  subst e1
  unfold Oper.wp
  simp [execOp, hop, hm, hx, hrun, Result.andThen]
  exact hK' _ _ hK

/-- A guard: the operation is a literal's store. -/
abbrev isIns : Op → Bool
  | .insert .. => true
  | _ => false
theorem atInsert {P : Program} {w : World} {ops : Array Oper} {rest : List Oper} {o : Oper} {a : Act} {Q : Exit → Act → World → Prop} (_h : isIns o.op = true) (hK : wpList P ops Q (o :: rest) a w) : wpList P ops Q (o :: rest) a w := hK

/-- The walk stands where this is laid: its goal is then behind a name. -/
theorem stopHere {p : Prop} (h : RowKit.Hid p) : p := h

theorem build48 (m : Option Nat) (a : Int) (w : World) : (Instr.build 48 #[(0, .map m), (1, .int .i64 a)]).run Try.prog w = .ok (.agg #[.map m, .int .i64 a]) w := run_build w 48 _ _ (by kernel_rfl)
end Go.Proofs.Qxb6614936a
