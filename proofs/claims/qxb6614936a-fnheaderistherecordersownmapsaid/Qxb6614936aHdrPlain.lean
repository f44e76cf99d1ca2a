/- The header law's plain part: what the map holds after n stores; what the last loop knows. -/
import Derived.Test.Qxb6614936aStrs
namespace Go.Proofs.Qxb6614936a
open Go.RowKit

/-- Two strings that differ, as the walk tests them. -/
theorem ne_toList {s k : ByteArray} (h : ¬ s = k) : (s.toList == k.toList) = false := by
  rw [beq_eq_false_iff_ne]
  intro e
  apply h
  rw [Go.ByteArray.toList_eq, Go.ByteArray.toList_eq] at e
  cases s
  cases k
  simp only [ByteArray.mk.injEq]
  exact Array.toList_inj.1 e

/-- The strings that were last given to the key 's' among the first n stores. -/
def lastVal (keys : List ByteArray) (rows : List (Value × List ByteArray)) : Nat → ByteArray → Option (List ByteArray)
  | 0, _ => none
  | n + 1, s => if keys.getD n ByteArray.empty = s then some (rows.getD n (.bool false, [])).2 else lastVal keys rows n s

/-- What stands at the key 's' of the map D: nothing, or a slice that leads to those strings. -/
def Reads (w : World) (D : DataW Value) (s : ByteArray) : Option (List ByteArray) → Prop
  | none => Maps.has D (kl s) = false
  | some ss => Maps.has D (kl s) = true ∧ ∃ a len, D.atKey (kl s) (.held (.slice none 0 0)) = .held (.slice a len len) ∧ StrsAt w a len ss

theorem Reads.later {w w' : World} {D : DataW Value} {s : ByteArray} {o : Option (List ByteArray)} (h : Reads w D s o) (hs : ∀ a len ss, StrsAt w a len ss → StrsAt w' a len ss) : Reads w' D s o := by
  cases o with
  | none => exact h
  | some ss =>
    obtain ⟨h1, a, len, h2, h3⟩ := h
    exact ⟨h1, a, len, h2, hs _ _ _ h3⟩

/-- A store at the key 't'. -/
theorem Reads.put {w : World} {D : DataW Value} (hD : Maps.IsMap D) {s t : ByteArray} {o : Option (List ByteArray)} (h : Reads w D s o) {a : Option Addr} {len : Nat} {ss : List ByteArray} (hs : StrsAt w a len ss) :
    Reads w (D.put (kl t) (.held (.slice a len len))) s (if t = s then some ss else o) := by
  by_cases c : t = s
  · subst c
    rw [if_pos rfl]
    exact ⟨Maps.has_put_same hD (kl_key t) _, a, len, Maps.atKey_put_same hD (kl_key t) _ _, hs⟩
  · rw [if_neg c]
    have hne : kl s ≠ kl t := fun e => c (kl_inj e).symm
    cases o with
    | none =>
      show Maps.has _ _ = false
      rw [Maps.has_put_other hne]
      exact h
    | some ss' =>
      obtain ⟨h1, a', len', h2, h3⟩ := h
      refine ⟨?_, a', len', ?_, h3⟩
      · rw [Maps.has_put_other hne]; exact h1
      · rw [Maps.atKey_put_other hne]; exact h2

/-- The map after n stores; its strings in wr. -/
def Built (w wr : World) (keys : List ByteArray) (rows : List (Value × List ByteArray)) (n : Nat) (D : DataW Value) : Prop :=
  wr.ownsMap Try.prog 9 raw w.heap.size n D ∧ Below w.heap.size w wr ∧ w.heap.size < wr.heap.size ∧ ∀ s, Reads wr D s (lastVal keys rows n s)

/-- The strings stay when another world follows that keeps every block but the map's. -/
theorem strs_grown {wr w2 : World} {B : Nat} (hm : ∃ es c, wr.heap[B]? = some (.map es c)) (hg : wr.grownBy w2 (some B)) {a : Option Addr} {len : Nat} {ss : List ByteArray} (h : StrsAt wr a len ss) : StrsAt w2 a len ss := by
  obtain ⟨h1, h2, h3, h4⟩ := h
  refine ⟨h1, h2, h3, ?_⟩
  rcases h4 with h4 | ⟨b, off, rfl, hc⟩
  · exact .inl h4
  · refine .inr ⟨b, off, rfl, fun i hi => ?_⟩
    have hci := hc i hi
    have hne : some b ≠ some B := by
      intro e
      cases e
      obtain ⟨es, c, hb⟩ := hm
      unfold World.cell? at hci
      simp [hb] at hci
    have := hg.block b (cell_lt (a := ⟨b, off + i, none⟩) hci) hne
    rw [World.cell?_of_block (w := wr) this]
    exact hci

theorem own_block {wr : World} {B n : Nat} {D : DataW Value} (h : wr.ownsMap Try.prog 9 raw B n D) : ∃ es c, wr.heap[B]? = some (.map es c) := by
  obtain ⟨es, c, hb, _⟩ := h
  exact ⟨es, c, hb⟩

theorem own_below {P : Program} {K : TypeId} {R : Value → Option (DataW Value × List MemPlace)} {wr w2 : World} {B n N : Nat} {D : DataW Value} (h : wr.ownsMap P K R B n D) (hb : Below N wr w2) (hlt : B < N) : w2.ownsMap P K R B n D := by
  obtain ⟨es, clock, hb', r⟩ := h
  exact ⟨es, clock, (hb.block B hlt).trans hb', r⟩

/-- 'm[s] = v' as a run. -/
theorem store_any {wr : World} {B n : Nat} {D : DataW Value} (t e : TypeId) (ht : Try.prog.underlying t = some (.map 9 e)) (h : wr.ownsMap Try.prog 9 raw B n D) (hn : n < 1048576) (s : ByteArray) (hs : s.size ≤ maxLen) (v : Value) :
    ∃ w', (Instr.mapUpdate t (.map (some B)) (.string s) v).run Try.prog wr = .ok () w' ∧ w'.ownsMap Try.prog 9 raw B (n + 1) (D.put (kl s) (.held v)) ∧ wr.grownBy w' (some B) :=
  h.update law9 ht (by unfold maxLen; omega) (key9 hs) (raw_mk v)

/-- 'm[s]' and 'v, ok := m[s]' as runs. -/
theorem look_any {wr : World} {B n : Nat} {D : DataW Value} (t e : TypeId) (ht : Try.prog.underlying t = some (.map 9 e)) (h : wr.ownsMap Try.prog 9 raw B n D) (s : ByteArray) (hs : s.size ≤ maxLen) (z : Value) (hz : ∀ w, (zeroValue e).run Try.prog w = .ok z w)
    (v : Value) (hat : D.atKey (kl s) (.held z) = .held v) :
    (Instr.lookup t (.map (some B)) (.string s) false).run Try.prog wr = .ok v wr ∧ (Instr.lookup t (.map (some B)) (.string s) true).run Try.prog wr = .ok (.tuple #[v, .bool (Maps.has D (kl s))]) wr := by
  constructor
  · obtain ⟨v', ps, hrun, hv⟩ := h.lookup law9 ht (hz wr) (raw_mk z) (key9 hs)
    rw [hat] at hv
    rw [raw_inv hv] at hrun
    exact hrun
  · obtain ⟨v', ps, hrun, hv⟩ := h.look_ok law9 ht (hz wr) (raw_mk z) (key9 hs)
    rw [hat] at hv
    rw [raw_inv hv] at hrun
    exact hrun

/-- The start. -/
theorem built_zero (w : World) (keys : List ByteArray) (rows : List (Value × List ByteArray)) : Built w (w.alloc (.map #[] 0)) keys rows 0 (.map []) :=
  ⟨World.ownsMap_made w Try.prog 9 raw, (Below.refl _ _).alloc (Nat.le_refl _) _, by simp, fun _ => rfl⟩

/-- One store: behind the clone the world is w2, behind the store w3. -/
theorem built_step {w wr w2 w3 : World} {keys : List ByteArray} {rows : List (Value × List ByteArray)} {n : Nat} {D : DataW Value} (h : Built w wr keys rows n D) (hb : Below wr.heap.size wr w2)
    {a : Option Addr} {len : Nat} (hs : StrsAt w2 a len (rows.getD n (.bool false, [])).2)
    (hown : w3.ownsMap Try.prog 9 raw w.heap.size (n + 1) (D.put (kl (keys.getD n ByteArray.empty)) (.held (.slice a len len)))) (hg : w2.grownBy w3 (some w.heap.size)) :
    Built w w3 keys rows (n + 1) (D.put (kl (keys.getD n ByteArray.empty)) (.held (.slice a len len))) := by
  obtain ⟨h1, h2, h3, h4⟩ := h
  have hm := own_block h1
  have hm2 : ∃ es c, w2.heap[w.heap.size]? = some (.map es c) := by
    obtain ⟨es, c, e⟩ := hm
    exact ⟨es, c, (hb.block _ h3).trans e⟩
  have hsz := hb.size
  refine ⟨hown, ?_, ?_, fun s => ?_⟩
  · exact (h2.trans (hb.mono (Nat.le_of_lt h3))).grown hg (by omega) (fun k hk => by cases hk; exact Nat.le_refl _)
  · have := hg.size
    omega
  · have r1 : Reads w3 D s (lastVal keys rows n s) := (h4 s).later (fun a len ss h => strs_grown hm2 hg (h.later hb (Nat.le_refl _)))
    exact Reads.put h1.isMap r1 (strs_grown hm2 hg hs)

/-- Where the key at i stands at no later place, the last store at that key is the i-th. -/
theorem lastVal_at (keys : List ByteArray) (rows : List (Value × List ByteArray)) (i : Nat) : ∀ n, i < n → (∀ j, i < j → j < n → keys.getD j ByteArray.empty ≠ keys.getD i ByteArray.empty) → lastVal keys rows n (keys.getD i ByteArray.empty) = some (rows.getD i (.bool false, [])).2
  | 0, h, _ => by omega
  | n + 1, h, hl => by
    unfold lastVal
    by_cases c : i = n
    · subst c
      rw [if_pos rfl]
    · rw [if_neg (hl n (by omega) (by omega))]
      exact lastVal_at keys rows i n (by omega) (fun j h1 h2 => hl j h1 (by omega))

/-- What the map of keys seen says: every key from place i on, but k, is marked. -/
def Seen (S : DataW Value) (keys : List ByteArray) (k : ByteArray) (i n : Nat) : Prop :=
  Maps.IsMap S ∧ (∀ s, ∃ b, S.atKey (kl s) (.held (.bool false)) = .held (.bool b)) ∧ ∀ j, i ≤ j → j < n → keys.getD j ByteArray.empty ≠ k → S.atKey (kl (keys.getD j ByteArray.empty)) (.held (.bool false)) = .held (.bool true)

theorem seen_zero (keys : List ByteArray) (k : ByteArray) (n : Nat) : Seen (.map []) keys k n n :=
  ⟨Maps.isMap_empty, fun s => ⟨false, rfl⟩, fun j h1 h2 => by omega⟩

theorem Seen.skip {S : DataW Value} {keys : List ByteArray} {k : ByteArray} {i n : Nat} (h : Seen S keys k (i + 1) n) (hi : keys.getD i ByteArray.empty = k ∨ S.atKey (kl (keys.getD i ByteArray.empty)) (.held (.bool false)) = .held (.bool true)) : Seen S keys k i n := by
  refine ⟨h.1, h.2.1, fun j h1 h2 h3 => ?_⟩
  by_cases c : j = i
  · subst c
    rcases hi with hi | hi
    · exact absurd hi h3
    · exact hi
  · exact h.2.2 j (by omega) h2 h3

theorem Seen.mark {S : DataW Value} {keys : List ByteArray} {k : ByteArray} {i n : Nat} (h : Seen S keys k (i + 1) n) : Seen (S.put (kl (keys.getD i ByteArray.empty)) (.held (.bool true))) keys k i n := by
  have hp : ∀ s, (S.put (kl (keys.getD i ByteArray.empty)) (.held (.bool true))).atKey (kl s) (.held (.bool false)) = if keys.getD i ByteArray.empty = s then .held (.bool true) else S.atKey (kl s) (.held (.bool false)) := by
    intro s
    by_cases c : keys.getD i ByteArray.empty = s
    · rw [if_pos c, ← c]
      exact Maps.atKey_put_same h.1 (kl_key _) _ _
    · rw [if_neg c]
      exact Maps.atKey_put_other (fun e => c (kl_inj e).symm) _ _
  refine ⟨h.1.put _ _, fun s => ?_, fun j h1 h2 h3 => ?_⟩
  · rw [hp]
    by_cases c : keys.getD i ByteArray.empty = s
    · rw [if_pos c]; exact ⟨true, rfl⟩
    · rw [if_neg c]; exact h.2.1 s
  · rw [hp]
    by_cases c : keys.getD i ByteArray.empty = keys.getD j ByteArray.empty
    · rw [if_pos c]
    · rw [if_neg c]
      by_cases d : j = i
      · subst d; exact absurd rfl c
      · exact h.2.2 j (by omega) h2 h3

/-- An unmarked key stands at no later place. -/
theorem Seen.later {S : DataW Value} {keys : List ByteArray} {k : ByteArray} {i n : Nat} (h : Seen S keys k (i + 1) n) (hk : keys.getD i ByteArray.empty ≠ k) (hf : S.atKey (kl (keys.getD i ByteArray.empty)) (.held (.bool false)) = .held (.bool false)) :
    ∀ j, i < j → j < n → keys.getD j ByteArray.empty ≠ keys.getD i ByteArray.empty := by
  intro j h1 h2 e
  have := h.2.2 j h1 h2 (by rw [e]; exact hk)
  rw [e, hf] at this
  simp at this

/-- What stands at a key is some slice, whatever the key. -/
theorem Reads.some_val {w : World} {D : DataW Value} {s : ByteArray} {o : Option (List ByteArray)} (h : Reads w D s o) : ∃ v, D.atKey (kl s) (.held (.slice none 0 0)) = .held v := by
  cases o with
  | none => exact ⟨_, Maps.atKey_of_not_has h _⟩
  | some ss =>
    obtain ⟨_, a, len, e, _⟩ := h
    exact ⟨_, e⟩

/-- The map behind the store through the header: at k the clone of v, at every other key what it held. -/
def Fin (w wr : World) (keys : List ByteArray) (rows : List (Value × List ByteArray)) (n : Nat) (k : ByteArray) (vs : List ByteArray) (D : DataW Value) (a : Option Addr) (len : Nat) : Prop :=
  wr.ownsMap Try.prog 9 raw w.heap.size (n + 1) D ∧ Below w.heap.size w wr ∧ w.heap.size < wr.heap.size ∧ (∀ s, s ≠ k → Reads wr D s (lastVal keys rows n s)) ∧
    D.atKey (kl k) (.held (.slice none 0 0)) = .held (.slice a len len) ∧ Maps.has D (kl k) = true ∧ StrsAt wr a len vs

theorem Fin.later {w wr w2 : World} {keys : List ByteArray} {rows : List (Value × List ByteArray)} {n : Nat} {k : ByteArray} {vs : List ByteArray} {D : DataW Value} {a : Option Addr} {len : Nat}
    (h : Fin w wr keys rows n k vs D a len) (hb : Below wr.heap.size wr w2) : Fin w w2 keys rows n k vs D a len := by
  obtain ⟨h1, h2, h3, h4, h5, h6, h7⟩ := h
  have := hb.size
  exact ⟨own_below h1 hb h3, h2.trans (hb.mono (Nat.le_of_lt h3)), by omega, fun s hs => (h4 s hs).later (fun _ _ _ h => h.later hb (Nat.le_refl _)), h5, h6, h7.later hb (Nat.le_refl _)⟩

/-- .. also when a cell block or a map beside it is written. -/
theorem Fin.grown {w wr w2 : World} {keys : List ByteArray} {rows : List (Value × List ByteArray)} {n : Nat} {k : ByteArray} {vs : List ByteArray} {D : DataW Value} {a : Option Addr} {len : Nat} {M : Nat}
    (h : Fin w wr keys rows n k vs D a len) (hm : ∃ es c, wr.heap[M]? = some (.map es c)) (hM : w.heap.size < M) (hg : wr.grownBy w2 (some M)) : Fin w w2 keys rows n k vs D a len := by
  obtain ⟨h1, h2, h3, h4, h5, h6, h7⟩ := h
  have := hg.size
  refine ⟨h1.kept hg (by simp; omega), h2.grown hg (by omega) (fun k hk => by cases hk; omega), by omega, fun s hs => (h4 s hs).later (fun _ _ _ h => strs_grown hm hg h), h5, h6, strs_grown hm hg h7⟩

theorem fin_mk {w wr w2 w3 : World} {keys : List ByteArray} {rows : List (Value × List ByteArray)} {n : Nat} {k : ByteArray} {vs : List ByteArray} {D : DataW Value} {a : Option Addr} {len : Nat}
    (h : Built w wr keys rows n D) (hb : Below wr.heap.size wr w2) (hs : StrsAt w2 a len vs)
    (hown : w3.ownsMap Try.prog 9 raw w.heap.size (n + 1) (D.put (kl k) (.held (.slice a len len)))) (hg : w2.grownBy w3 (some w.heap.size)) :
    Fin w w3 keys rows n k vs (D.put (kl k) (.held (.slice a len len))) a len := by
  obtain ⟨h1, h2, h3, h4⟩ := h
  have hm2 : ∃ es c, w2.heap[w.heap.size]? = some (.map es c) := by
    obtain ⟨es, c, e⟩ := own_block h1
    exact ⟨es, c, (hb.block _ h3).trans e⟩
  have hsz := hb.size
  have hsz2 := hg.size
  refine ⟨hown, (h2.trans (hb.mono (Nat.le_of_lt h3))).grown hg (by omega) (fun k hk => by cases hk; exact Nat.le_refl _), by omega, fun s hsk => ?_, Maps.atKey_put_same h1.isMap (kl_key k) _ _, Maps.has_put_same h1.isMap (kl_key k) _, strs_grown hm2 hg hs⟩
  have r1 : Reads w3 D s (lastVal keys rows n s) := (h4 s).later (fun a len ss h => strs_grown hm2 hg (h.later hb (Nat.le_refl _)))
  have := Reads.put (t := k) h1.isMap r1 (strs_grown hm2 hg hs)
  rw [if_neg (fun e => hsk e.symm)] at this
  exact this

/-- How long the map is then. -/
theorem size_after {wr : World} {B n : Nat} {D : DataW Value} (h : wr.ownsMap Try.prog 9 raw B n D) (k : ByteArray) (v : Value) :
    Maps.size (D.put (kl k) (.held v)) = if Maps.has D (kl k) = true then Maps.size D else Maps.size D + 1 :=
  Maps.size_put (h.tidy law9) _

theorem zero22' : ∀ w, (zeroValue 22).run Try.prog w = .ok (.slice none 0 0) w := zero22
theorem zero4 : ∀ w, (zeroValue 4).run Try.prog w = .ok (.bool false) w := fun w => by kernel_rfl

/-- What the walk reads of the map at k. -/
theorem Fin.looks {w wr : World} {keys : List ByteArray} {rows : List (Value × List ByteArray)} {n : Nat} {k : ByteArray} {vs : List ByteArray} {D : DataW Value} {a : Option Addr} {len : Nat}
    (h : Fin w wr keys rows n k vs D a len) (hk : k.size ≤ maxLen) :
    (Instr.lookup 25 (.map (some w.heap.size)) (.string k) false).run Try.prog wr = .ok (.slice a len len) wr ∧ (Instr.lookup 30 (.map (some w.heap.size)) (.string k) true).run Try.prog wr = .ok (.tuple #[.slice a len len, .bool true]) wr := by
  obtain ⟨h1, h2, h3, h4, h5, h6, h7⟩ := h
  have l1 := (look_any 25 22 Try.underlying25 h1 k hk _ zero22' _ h5).1
  have l2 := (look_any 30 22 Try.underlying30 h1 k hk _ zero22' _ h5).2
  rw [h6] at l2
  exact ⟨l1, l2⟩

/-- .. and at another key that was stored. -/
theorem Fin.looks_at {w wr : World} {keys : List ByteArray} {rows : List (Value × List ByteArray)} {n : Nat} {k : ByteArray} {vs : List ByteArray} {D : DataW Value} {a : Option Addr} {len : Nat}
    (h : Fin w wr keys rows n k vs D a len) {s : ByteArray} (hs : s.size ≤ maxLen) (hne : s ≠ k) {ss : List ByteArray} (hl : lastVal keys rows n s = some ss) :
    ∃ a' len', (Instr.lookup 30 (.map (some w.heap.size)) (.string s) true).run Try.prog wr = .ok (.tuple #[.slice a' len' len', .bool true]) wr ∧ StrsAt wr a' len' ss := by
  obtain ⟨h1, h2, h3, h4, h5, h6, h7⟩ := h
  have r := h4 s hne
  rw [hl] at r
  obtain ⟨r1, a', len', r2, r3⟩ := r
  have l2 := (look_any 30 22 Try.underlying30 h1 s hs _ zero22' _ r2).2
  rw [r1] at l2
  exact ⟨a', len', l2, r3⟩
end Go.Proofs.Qxb6614936a
