/- How the header law's arguments, as they were read, lie in memory. -/
import Derived.Test.Qxb6614936aStrs
import Derived.SliceStrings
import Derived.Deep.Slices
import Derived.OpenShut
namespace Go.Proofs.Qxb6614936a
open Go.ChangeShapes Go.WideShapes Go.ChangeAt Go.RowKit

theorem cells9 : Try.prog.cellsOf 9 = 1 := by kernel_rfl
theorem cells22 : Try.prog.cellsOf 22 = 1 := by kernel_rfl

theorem addr_plain {w : World} {x : Addr} {v : Value} (h : w.cell? (x.add 0) = some v) : ∃ b off, x = ⟨b, off, none⟩ := by
  obtain ⟨b, off, spot⟩ := x
  have hspot : spot = none := by simpa [Addr.add] using World.cell?_spot h
  subst hspot
  exact ⟨b, off, rfl⟩

theorem strs_open {H : Type} {enc : TypeId × Value → H} {W : World} {base : Nat} {spare : Nat → Bool} {held : Bool} {fuel : Nat} {a : Option Addr} {len cap : Nat} {x : DataW H × List MemPlace}
    (h : DataW.trod enc Try.prog W base spare held fuel 22 [.slice a len cap] = some x) : ∃ ss, StrsAt W a len ss := by
  rcases open_strings Try.underlying22 Try.underlying9 cells9 h with ⟨hcs, _⟩ | ⟨y, l, c, ss, hcs, _, hl, hm, hz, _, hcell, hws⟩
  · simp at hcs
    obtain ⟨rfl, rfl, rfl⟩ := hcs
    exact ⟨[], rfl, Nat.zero_le _, by simp, .inl rfl⟩
  · simp at hcs
    obtain ⟨rfl, rfl, rfl⟩ := hcs
    have hle : len ≤ ss.length := by rw [hz]; split <;> omega
    refine ⟨ss.take len, by simp; omega, by omega, fun s hs => hws s (List.mem_of_mem_take hs), ?_⟩
    by_cases h0 : len = 0
    · exact .inl h0
    · right
      obtain ⟨b, off, rfl⟩ := addr_plain (hcell 0 (by omega))
      refine ⟨b, off, rfl, fun i hi => ?_⟩
      rw [← Go.WideShapes.add_plain, hcell i (by omega)]
      simp [hi]

theorem rows_open {H : Type} {enc : TypeId × Value → H} {W : World} {base : Nat} {spare : Nat → Bool} {held : Bool} {fuel : Nat} {a : Option Addr} {len cap : Nat} {x : DataW H × List MemPlace}
    (h : DataW.trod enc Try.prog W base spare held fuel 23 [.slice a len cap] = some x) : ∃ rows, RowsAt W a len rows := by
  rcases Deep.open_slice1 Try.underlying23 cells22 h with ⟨hcs, _⟩ | ⟨y, l, c, m, n, V, D, Pl, hcs, _, hl, hm, hmm, _, hx⟩
  · simp at hcs
    obtain ⟨rfl, rfl, rfl⟩ := hcs
    exact ⟨[], rfl, Nat.zero_le _, by simp, .inl rfl⟩
  · simp at hcs
    obtain ⟨rfl, rfl, rfl⟩ := hcs
    have hle : len ≤ m := by rw [hmm]; split <;> omega
    have each : ∀ i, i < len → ∃ ss, ∃ ai li ci, V i = .slice ai li ci ∧ StrsAt W ai li ss := by
      intro i hi
      have ht := (hx i (by omega)).2
      rcases open_strings Try.underlying22 Try.underlying9 cells9 ht with ⟨hcs, _⟩ | ⟨y, l, c, ss, hcs, _⟩
      · simp at hcs
        rw [hcs] at ht
        obtain ⟨ss, hs⟩ := strs_open ht
        exact ⟨ss, _, _, _, hcs, hs⟩
      · simp at hcs
        rw [hcs] at ht
        obtain ⟨ss, hs⟩ := strs_open ht
        exact ⟨ss, _, _, _, hcs, hs⟩
    obtain ⟨S, hS⟩ := Deep.choose_lt (α := List ByteArray) (p := fun i ss => ∃ ai li ci, V i = .slice ai li ci ∧ StrsAt W ai li ss) each
    refine ⟨(List.range len).map fun i => (V i, S i), by simp, by omega, ?_, ?_⟩
    · intro r hr
      simp at hr
      obtain ⟨i, hi, rfl⟩ := hr
      exact hS i hi
    · by_cases h0 : len = 0
      · exact .inl h0
      · right
        obtain ⟨b, off, rfl⟩ := addr_plain (hx 0 (by omega)).1
        refine ⟨b, off, rfl, fun i hi => ?_⟩
        rw [← Go.WideShapes.add_plain, (hx i (by omega)).1]
        simp [hi]
end Go.Proofs.Qxb6614936a
