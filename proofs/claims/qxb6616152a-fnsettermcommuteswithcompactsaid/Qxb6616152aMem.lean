/- Slices of integers and of log entries as they lie in memory; the contracts of the functions that copy and compare them. -/
import Derived.Test.Qxb6616152aRows
import Derived.WalkKit
import Derived.ProofKit
import Derived.Below
import Derived.WalkLawsBesides
import Derived.WalkSpells
import Derived.Deep.QuietTactic
import Derived.BigQuiet
import Derived.OpenShut
import Derived.Outline
namespace Go.Proofs.Qxb6616152a
open Go.ChangeShapes Go.WideShapes Go.ChangeAt Go.RowKit

/-- The slice '(a, len)' leads to the integers 'zs' in w. -/
def IntsAt (k : IntKind) (w : World) (a : Option Addr) (len : Nat) (zs : List Int) : Prop :=
  zs.length = len ∧ len ≤ 1048576 ∧ (len = 0 ∨ ∃ b off, a = some ⟨b, off, none⟩ ∧ ∀ i, i < len → w.cell? ⟨b, off + i, none⟩ = some (.int k (zs.getD i 0)))

theorem cell_lt {w : World} {a : Addr} {v : Value} (h : w.cell? a = some v) : a.block < w.heap.size := by
  unfold World.cell? at h
  cases hb : w.heap[a.block]? with
  | none => rw [hb] at h; simp at h
  | some o => exact (Array.getElem?_eq_some_iff.1 hb).1

theorem IntsAt.later {k : IntKind} {w w' : World} {B : Nat} {a : Option Addr} {len : Nat} {zs : List Int} (h : IntsAt k w a len zs) (hb : Below B w w') (hB : w.heap.size ≤ B) : IntsAt k w' a len zs := by
  obtain ⟨h1, h2, h4⟩ := h
  refine ⟨h1, h2, ?_⟩
  rcases h4 with h4 | ⟨b, off, rfl, hc⟩
  · exact .inl h4
  · refine .inr ⟨b, off, rfl, fun i hi => ?_⟩
    have := hc i hi
    rw [hb.cell (p := ⟨b, off + i, none⟩) (Nat.lt_of_lt_of_le (cell_lt this) hB)]
    exact this

/-! ### A clone of bytes -/

/-- The new array when 'k' of its cells are filled. -/
def mid (zs : List Int) (n k : Nat) : Array Value := (Array.range n).map fun i => .int .u8 (if i < k then zs.getD i 0 else 0)

theorem mid_zero (zs : List Int) (n : Nat) : madeCells (Value.int .u8 0).cells (n * 1) = mid zs n 0 := by
  unfold madeCells mid
  rw [Nat.mul_one]
  apply Array.ext
  · simp
  · intro i h1 h2
    simp [Value.cells, Nat.mod_one]

theorem mid_any (zs : List Int) (n : Nat) : mid [] n 0 = mid zs n 0 := by
  unfold mid
  simp

theorem mid_step (zs : List Int) (n k : Nat) (_h : k < n) : (mid zs n k).setIfInBounds k (.int .u8 (zs.getD k 0)) = mid zs n (k + 1) := by
  unfold mid
  apply Array.ext
  · simp
  · intro i h1 h2
    simp at h1 h2
    rw [Array.getElem_setIfInBounds (by simpa using h1)]
    by_cases c : k = i
    · subst c
      simp
    · by_cases d : i < k
      · simp [c, d, show i < k + 1 by omega]
      · simp [c, d, show ¬ i < k + 1 by omega]

theorem mid_cell (zs : List Int) (n k : Nat) (h : k ≤ n) (i : Nat) (hi : i < k) : (mid zs n k)[i]? = some (.int .u8 (zs.getD i 0)) := by
  unfold mid
  have : i < n := by omega
  simp [hi, this]

theorem info5 : (Try.prog.info? 5).map (fun i => (i.zero, i.size, i.bytes)) = some (some (.int .u8 0), 1, 1) := by kernel_rfl

theorem make24 (n : Nat) (h : n ≤ 1048576) (w : World) : (Instr.makeSlice 24 (.int .i64 n) (.int .i64 n)).run Try.prog w = .ok (.slice (some ⟨w.heap.size, 0, none⟩) n n) (w.alloc (.cells (mid [] n 0) 5)) := by
  obtain ⟨i0, hi, hz0, hz1, hz2⟩ := info_parts info5
  have := run_make (P := Try.prog) w 24 5 i0 (.int .u8 0) Try.underlying24 hi hz0 .i64 .i64 n n (by omega) (by omega) (by rw [hz2]; omega) (by omega)
  rw [hz1, Int.toNat_natCast, mid_zero []] at this
  exact this

set_option maxHeartbeats 400000 in
theorem clone_some (x : Addr) (len cap : Nat) (zs : List Int) (w : World) (h : IntsAt .u8 w (some x) len zs) :
    Calls Try.prog 9 #[.slice (some x) len cap] w fun e w' => e = .returned (.slice (some ⟨w.heap.size, 0, none⟩) len len) ∧ w.alloc (.cells (mid zs len len) 5) = w' := by
  obtain ⟨h1, h2, h4⟩ := h
  have hmk := make24 len (by omega)
  have hnil := fun w a n c n' c' => Lib.run_eql_slice_nil (P := Try.prog) w 24 5 a n c n' c' Try.underlying24
  rw [mid_any zs len] at hmk
  go_enter Try.func9, Try.ntmps9
  go_wp2
  go_loopw [4] (fun i wr => ∃ k : Nat, k ≤ len ∧ i = .int .i64 k ∧ wr = w.alloc (.cells (mid zs len k) 5)) (fun i _ => len - (intOf i).toNat)
  case atStart => exact ⟨0, Nat.zero_le _, rfl, rfl⟩
  case round =>
    obtain ⟨k, hk, rfl, rfl⟩ := hrel
    by_cases hlt : k < len
    · rcases h4 with h4 | ⟨b, off, h5, hc⟩
      · omega
      · cases h5
        have hck := hc k hlt
        have hbl := cell_lt hck
        obtain ⟨s, hs⟩ : ∃ s, s = zs.getD k 0 := ⟨_, rfl⟩
        rw [← hs] at hck
        have HS : Hid ((mid zs len k).setIfInBounds k (.int .u8 s) = mid zs len (k + 1)) := by
          have := mid_step zs len k hlt
          rw [← hs] at this
          exact this
        have hold : (mid zs len k)[k]? = some (.int .u8 0) := by
          unfold mid
          simp [hlt]
        have hck' : ∀ o, (w.alloc o).cell? ⟨b, off + k, none⟩ = some (.int .u8 s) := fun o => (World.cell?_alloc_past o _ _ hbl).trans hck
        clear hc hck hs h1
        go_wp2
        go_roundw
        case rel => exact ⟨k + 1, by omega, by go_num, by rw [HS.out]⟩
        case measure => simp [intOf]; omega
    · have e : k = len := by omega
      subst e
      go_wp2
      go_ret
      exact ⟨rfl, rfl⟩

theorem clone_any (a : Option Addr) (len cap : Nat) (zs : List Int) (w : World) (h : IntsAt .u8 w a len zs) :
    Calls Try.prog 9 #[.slice a len cap] w fun e w' => ∃ a' , e = .returned (.slice a' len len) ∧ IntsAt .u8 w' a' len zs ∧ Below w.heap.size w w' := by
  cases a with
  | none =>
    have hz : len = 0 := by
      rcases h.2.2 with h | ⟨b, off, h, _⟩
      · exact h
      · cases h
    have hnil := fun w a n c n' c' => Lib.run_eql_slice_nil (P := Try.prog) w 24 5 a n c n' c' Try.underlying24
    subst hz
    have h' : Hid (IntsAt .u8 w none 0 zs) := h
    clear h
    go_enter Try.func9, Try.ntmps9
    go_wp2
    go_ret
    exact ⟨none, rfl, h'.out, Below.refl _ _⟩
  | some x =>
    refine (clone_some x len cap zs w h).mono ?_
    rintro e w' ⟨rfl, rfl⟩
    refine ⟨_, rfl, ?_, (Below.refl _ _).alloc (Nat.le_refl _) _⟩
    refine ⟨h.1, h.2.1, .inr ⟨_, 0, rfl, fun i hi => ?_⟩⟩
    rw [Nat.zero_add, World.cell?_alloc_new]
    exact mid_cell zs len len (Nat.le_refl _) i hi

theorem below_drewN' {w : World} (n : Nat) : Below w.heap.size w (w.drewN n) := ⟨rfl, rfl, rfl, Nat.le_refl _, fun _ _ => rfl⟩

/-- Two slices that lead to the same bytes. -/
theorem eq_any (a a' : Option Addr) (len cap cap' : Nat) (zs : List Int) (w : World) (h : IntsAt .u8 w a len zs) (h' : IntsAt .u8 w a' len zs) :
    Calls Try.prog 15 #[.slice a len cap, .slice a' len cap'] w fun e w' => e = .returned (.bool true) ∧ Below w.heap.size w w' := by
  obtain ⟨h1, h2, h4⟩ := h
  obtain ⟨_, _, h5⟩ := h'
  go_enter Try.func15, Try.ntmps15
  go_wp2
  go_loopw [5] (fun i wr => ∃ k n : Nat, k ≤ len ∧ i = .int .i64 k ∧ wr = w.drewN n) (fun i _ => len - (intOf i).toNat)
  case atStart => exact ⟨0, 0, Nat.zero_le _, rfl, rfl⟩
  case round =>
    obtain ⟨k, n, hk, rfl, rfl⟩ := hrel
    by_cases hlt : k < len
    · rcases h4 with h4 | ⟨b, off, rfl, hc⟩
      · omega
      · rcases h5 with h5 | ⟨b', off', rfl, hc'⟩
        · omega
        · have hck := hc k hlt
          have hck' := hc' k hlt
          obtain ⟨s, hs⟩ : ∃ s, s = zs.getD k 0 := ⟨_, rfl⟩
          rw [← hs] at hck hck'
          clear hc hc' hs h1
          go_wp2
          go_quiet (fail)
          go_wp2
          go_roundw
          case rel => exact ⟨k + 1, _, by omega, by go_num, rfl⟩
          case measure => simp [intOf]; omega
    · have e : k = len := by omega
      subst e
      go_wp2
      go_ret
      exact ⟨rfl, below_drewN' n⟩
end Go.Proofs.Qxb6616152a
