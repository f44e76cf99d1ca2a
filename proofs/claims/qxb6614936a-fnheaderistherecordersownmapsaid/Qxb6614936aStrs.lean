/- Slices of strings as they lie in memory; the contracts of zzCloneSS and zzEqSS. -/
import Derived.Test.Qxb6614936aMap
import Derived.WalkKit
import Derived.ProofKit
import Derived.Below
import Derived.WalkLawsBesides
import Derived.WalkSpells
import Derived.Deep.QuietTactic
import Derived.BigQuiet
import Derived.Outline
namespace Go.Proofs.Qxb6614936a
open Go.ChangeShapes Go.WideShapes Go.ChangeAt Go.RowKit

/-- The slice '(a, len)' leads to the strings 'ss' in w. -/
def StrsAt (w : World) (a : Option Addr) (len : Nat) (ss : List ByteArray) : Prop :=
  ss.length = len ∧ len ≤ maxLen ∧ (∀ s ∈ ss, s.size ≤ maxLen) ∧ (len = 0 ∨ ∃ b off, a = some ⟨b, off, none⟩ ∧ ∀ i, i < len → w.cell? ⟨b, off + i, none⟩ = some (.string (ss.getD i ByteArray.empty)))

theorem cell_lt {w : World} {a : Addr} {v : Value} (h : w.cell? a = some v) : a.block < w.heap.size := by
  unfold World.cell? at h
  cases hb : w.heap[a.block]? with
  | none => rw [hb] at h; simp at h
  | some o => exact (Array.getElem?_eq_some_iff.1 hb).1

/-- What was there reads on in a later world. -/
theorem StrsAt.later {w w' : World} {B : Nat} {a : Option Addr} {len : Nat} {ss : List ByteArray} (h : StrsAt w a len ss) (hb : Below B w w') (hB : w.heap.size ≤ B) : StrsAt w' a len ss := by
  obtain ⟨h1, h2, h3, h4⟩ := h
  refine ⟨h1, h2, h3, ?_⟩
  rcases h4 with h4 | ⟨b, off, rfl, hc⟩
  · exact .inl h4
  · refine .inr ⟨b, off, rfl, fun i hi => ?_⟩
    have := hc i hi
    rw [hb.cell (p := ⟨b, off + i, none⟩) (Nat.lt_of_lt_of_le (cell_lt this) hB)]
    exact this

/-- The new array of a clone when 'k' of its cells are filled. -/
def mid (ss : List ByteArray) (n k : Nat) : Array Value := (Array.range n).map fun i => .string (if i < k then ss.getD i ByteArray.empty else ByteArray.empty)

theorem mid_zero (ss : List ByteArray) (n : Nat) : madeCells (Value.string ByteArray.empty).cells (n * 1) = mid ss n 0 := by
  unfold madeCells mid
  rw [Nat.mul_one]
  apply Array.ext
  · simp
  · intro i h1 h2
    simp [Value.cells, Nat.mod_one]

theorem mid_step (ss : List ByteArray) (n k : Nat) (_h : k < n) : (mid ss n k).setIfInBounds k (.string (ss.getD k ByteArray.empty)) = mid ss n (k + 1) := by
  unfold mid
  apply Array.ext
  · simp
  · intro i h1 h2
    simp at h1 h2
    rw [Array.getElem_setIfInBounds (by simpa using h1)]
    by_cases c : k = i
    · subst c
      simp
    · by_cases d : i < k
      · simp [c, d, show i < k + 1 by omega]
      · simp [c, d, show ¬ i < k + 1 by omega]

theorem mid_cell (ss : List ByteArray) (n k : Nat) (h : k ≤ n) (i : Nat) (hi : i < k) : (mid ss n k)[i]? = some (.string (ss.getD i ByteArray.empty)) := by
  unfold mid
  have : i < n := by omega
  simp [hi, this]

theorem info9 : (Try.prog.info? 9).map (fun i => (i.zero, i.size, i.bytes)) = some (some (.string ByteArray.empty), 1, 16) := by kernel_rfl

theorem make22 (n : Nat) (h : n ≤ 4294967296) (w : World) : (Instr.makeSlice 22 (.int .i64 n) (.int .i64 n)).run Try.prog w = .ok (.slice (some ⟨w.heap.size, 0, none⟩) n n) (w.alloc (.cells (mid [] n 0) 9)) := by
  obtain ⟨i0, hi, hz0, hz1, hz2⟩ := info_parts info9
  have := run_make (P := Try.prog) w 22 9 i0 (.string ByteArray.empty) Try.underlying22 hi hz0 .i64 .i64 n n (by omega) (by omega) (by rw [hz2]; omega) (by omega)
  rw [hz1, Int.toNat_natCast, mid_zero []] at this
  exact this

theorem mid_any (ss : List ByteArray) (n : Nat) : mid [] n 0 = mid ss n 0 := by
  unfold mid
  simp

/-- The slice of slices '(a, len)' leads to the rows: each a slice's value and the strings it leads to. -/
def RowsAt (w : World) (a : Option Addr) (len : Nat) (rows : List (Value × List ByteArray)) : Prop :=
  rows.length = len ∧ len ≤ maxLen ∧ (∀ r ∈ rows, ∃ ai li ci, r.1 = .slice ai li ci ∧ StrsAt w ai li r.2) ∧ (len = 0 ∨ ∃ b off, a = some ⟨b, off, none⟩ ∧ ∀ i, i < len → w.cell? ⟨b, off + i, none⟩ = some (rows.getD i (.bool false, [])).1)

/-- One row: its cell, its shape. -/
theorem RowsAt.row {w : World} {a : Option Addr} {len : Nat} {rows : List (Value × List ByteArray)} (h : RowsAt w a len rows) {i : Nat} (hi : i < len) :
    ∃ b off ai li ci, a = some ⟨b, off, none⟩ ∧ w.cell? ⟨b, off + i, none⟩ = some (.slice ai li ci) ∧ StrsAt w ai li (rows.getD i (.bool false, [])).2 := by
  obtain ⟨h1, h2, h3, h4⟩ := h
  rcases h4 with h4 | ⟨b, off, rfl, hc⟩
  · omega
  · have hm : rows.getD i (.bool false, []) ∈ rows := by
      have hi' : i < rows.length := by omega
      rw [List.getD_eq_getElem?_getD, List.getElem?_eq_getElem hi']
      exact List.getElem_mem hi'
    obtain ⟨ai, li, ci, e, hs⟩ := h3 _ hm
    exact ⟨b, off, ai, li, ci, rfl, by rw [hc i hi, e], hs⟩

/-- One string: its cell. -/
theorem StrsAt.str {w : World} {a : Option Addr} {len : Nat} {ss : List ByteArray} (h : StrsAt w a len ss) {i : Nat} (hi : i < len) :
    ∃ b off, a = some ⟨b, off, none⟩ ∧ w.cell? ⟨b, off + i, none⟩ = some (.string (ss.getD i ByteArray.empty)) ∧ (ss.getD i ByteArray.empty).size ≤ maxLen := by
  obtain ⟨h1, h2, h3, h4⟩ := h
  rcases h4 with h4 | ⟨b, off, rfl, hc⟩
  · omega
  · have hm : ss.getD i ByteArray.empty ∈ ss := by
      have hi' : i < ss.length := by omega
      rw [List.getD_eq_getElem?_getD, List.getElem?_eq_getElem hi']
      exact List.getElem_mem hi'
    exact ⟨b, off, rfl, hc i hi, h3 _ hm⟩

theorem RowsAt.later {w w' : World} {B : Nat} {a : Option Addr} {len : Nat} {rows : List (Value × List ByteArray)} (h : RowsAt w a len rows) (hb : Below B w w') (hB : w.heap.size ≤ B) : RowsAt w' a len rows := by
  obtain ⟨h1, h2, h3, h4⟩ := h
  refine ⟨h1, h2, fun r hr => ?_, ?_⟩
  · obtain ⟨ai, li, ci, e, hs⟩ := h3 r hr
    exact ⟨ai, li, ci, e, hs.later hb hB⟩
  · rcases h4 with h4 | ⟨b, off, rfl, hc⟩
    · exact .inl h4
    · refine .inr ⟨b, off, rfl, fun i hi => ?_⟩
      have := hc i hi
      rw [hb.cell (p := ⟨b, off + i, none⟩) (Nat.lt_of_lt_of_le (cell_lt this) hB)]
      exact this

set_option maxHeartbeats 400000 in
theorem clone_some (x : Addr) (len cap : Nat) (ss : List ByteArray) (w : World) (hl : len ≤ 1048576) (h : StrsAt w (some x) len ss) :
    Calls Try.prog 8 #[.slice (some x) len cap] w fun e w' => e = .returned (.slice (some ⟨w.heap.size, 0, none⟩) len len) ∧ w.alloc (.cells (mid ss len len) 9) = w' := by
  have hmk := make22 len (by omega)
  have hnil := fun w a n c n' c' => Lib.run_eql_slice_nil (P := Try.prog) w 22 9 a n c n' c' Try.underlying22
  rw [mid_any ss len] at hmk
  obtain ⟨h1, h2, h3, h4⟩ := h
  go_enter Try.func8, Try.ntmps8
  go_wp2
  go_loopw [4] (fun i wr => ∃ k : Nat, k ≤ len ∧ i = .int .i64 k ∧ wr = w.alloc (.cells (mid ss len k) 9)) (fun i _ => len - (intOf i).toNat)
  case atStart => exact ⟨0, Nat.zero_le _, rfl, rfl⟩
  case round =>
    obtain ⟨k, hk, rfl, rfl⟩ := hrel
    by_cases hlt : k < len
    · rcases h4 with h4 | ⟨b, off, h5, hc⟩
      · omega
      · cases h5
        have hck := hc k hlt
        have hbl := cell_lt hck
        obtain ⟨s, hs⟩ : ∃ s, s = ss.getD k ByteArray.empty := ⟨_, rfl⟩
        rw [← hs] at hck
        have HS : Hid ((mid ss len k).setIfInBounds k (.string s) = mid ss len (k + 1)) := by
          have := mid_step ss len k hlt
          rw [← hs] at this
          exact this
        have hold : (mid ss len k)[k]? = some (.string ByteArray.empty) := by
          unfold mid
          simp [hlt]
        have hck' : ∀ o, (w.alloc o).cell? ⟨b, off + k, none⟩ = some (.string s) := fun o => (World.cell?_alloc_past o _ _ hbl).trans hck
        clear hc hck hs h1
        go_wp2
        go_roundw
        case rel => exact ⟨k + 1, by omega, by go_num, by rw [HS.out]⟩
        case measure => simp [intOf]; omega
    · have e : k = len := by omega
      subst e
      go_wp2
      go_ret
      exact ⟨rfl, rfl⟩

theorem clone_any (a : Option Addr) (len cap : Nat) (ss : List ByteArray) (w : World) (hl : len ≤ 1048576) (h : StrsAt w a len ss) :
    Calls Try.prog 8 #[.slice a len cap] w fun e w' => ∃ a' , e = .returned (.slice a' len len) ∧ StrsAt w' a' len ss ∧ Below w.heap.size w w' := by
  cases a with
  | none =>
    have hz : len = 0 := by
      rcases h.2.2.2 with h | ⟨b, off, h, _⟩
      · exact h
      · cases h
    have hnil := fun w a n c n' c' => Lib.run_eql_slice_nil (P := Try.prog) w 22 9 a n c n' c' Try.underlying22
    subst hz
    have h' : Hid (StrsAt w none 0 ss) := h
    clear h
    go_enter Try.func8, Try.ntmps8
    go_wp2
    go_ret
    exact ⟨none, rfl, h'.out, Below.refl _ _⟩
  | some x =>
    refine (clone_some x len cap ss w hl h).mono ?_
    rintro e w' ⟨rfl, rfl⟩
    refine ⟨_, rfl, ?_, (Below.refl _ _).alloc (Nat.le_refl _) _⟩
    refine ⟨h.1, h.2.1, h.2.2.1, .inr ⟨_, 0, rfl, fun i hi => ?_⟩⟩
    rw [Nat.zero_add, World.cell?_alloc_new]
    exact mid_cell ss len len (Nat.le_refl _) i hi

/-- Two slices that lead to the same strings. -/
theorem eq_any (a a' : Option Addr) (len cap cap' : Nat) (ss : List ByteArray) (w : World) (h : StrsAt w a len ss) (h' : StrsAt w a' len ss) :
    Calls Try.prog 11 #[.slice a len cap, .slice a' len cap'] w fun e w' => e = .returned (.bool true) ∧ ∃ n, w' = w.drewN n := by
  obtain ⟨h1, h2, h3, h4⟩ := h
  obtain ⟨_, _, _, h5⟩ := h'
  unfold maxLen at h2
  go_enter Try.func11, Try.ntmps11
  go_wp2
  go_loopw [5] (fun i wr => ∃ k n : Nat, k ≤ len ∧ i = .int .i64 k ∧ wr = w.drewN n) (fun i _ => len - (intOf i).toNat)
  case atStart => exact ⟨0, 0, Nat.zero_le _, rfl, rfl⟩
  case round =>
    obtain ⟨k, n, hk, rfl, rfl⟩ := hrel
    by_cases hlt : k < len
    · rcases h4 with h4 | ⟨b, off, rfl, hc⟩
      · omega
      · rcases h5 with h5 | ⟨b', off', rfl, hc'⟩
        · omega
        · have hck := hc k hlt
          have hck' := hc' k hlt
          obtain ⟨s, hs⟩ : ∃ s, s = ss.getD k ByteArray.empty := ⟨_, rfl⟩
          rw [← hs] at hck hck'
          clear hc hc' hs h1
          go_wp2
          go_quiet (fail)
          go_wp2
          go_roundw
          case rel => exact ⟨k + 1, _, by omega, by go_num, rfl⟩
          case measure => simp [intOf]; omega
    · have e : k = len := by omega
      subst e
      go_wp2
      go_ret
      exact ⟨rfl, n, rfl⟩

theorem below_drewN' {w : World} (n : Nat) : Below w.heap.size w (w.drewN n) := ⟨rfl, rfl, rfl, Nat.le_refl _, fun _ _ => rfl⟩

theorem eq_later (a a' : Option Addr) (len cap cap' : Nat) (ss : List ByteArray) (w : World) (h : StrsAt w a len ss) (h' : StrsAt w a' len ss) :
    Calls Try.prog 11 #[.slice a len cap, .slice a' len cap'] w fun e w' => e = .returned (.bool true) ∧ Below w.heap.size w w' := by
  refine (eq_any a a' len cap cap' ss w h h').mono ?_
  rintro e w' ⟨rfl, n, rfl⟩
  exact ⟨rfl, below_drewN' n⟩
end Go.Proofs.Qxb6614936a
