/- How the laws' arguments, as they were read, lie in memory. -/
import Derived.Test.Qxb6616078aLaw4
import Derived.SliceStrings
import Derived.Deep.Slices
import Derived.OpenShut
namespace Go.Proofs.Qxb6616078a
open Go.ChangeShapes Go.WideShapes Go.ChangeAt Go.RowKit

theorem cells9 : Try.prog.cellsOf 9 = 1 := by kernel_rfl
theorem cells3 : Try.prog.cellsOf 3 = 1 := by kernel_rfl
theorem cells47 : Try.prog.cellsOf 47 = 1 := by kernel_rfl

theorem addr_plain {w : World} {x : Addr} {v : Value} (h : w.cell? (x.add 0) = some v) : ∃ b off, x = ⟨b, off, none⟩ := by
  obtain ⟨b, off, spot⟩ := x
  have hspot : spot = none := by simpa [Addr.add] using World.cell?_spot h
  subst hspot
  exact ⟨b, off, rfl⟩

/-- A row of cells that is read, as a slice. -/
theorem sl_of {W : World} {x : Addr} {len cap : Nat} {vs : List Value} (hl : vs.length = len) (hc : ∀ i, i < len → W.cell? (x.add i) = vs[i]?) : Sl W (.slice (some x) len cap) vs := by
  subst hl
  refine ⟨some x, cap, rfl, ?_⟩
  by_cases h0 : vs.length = 0
  · exact .inl (List.eq_nil_of_length_eq_zero h0)
  · right
    obtain ⟨b, off, rfl⟩ := addr_plain (v := vs[0]'(by omega)) (by rw [hc 0 (by omega)]; exact List.getElem?_eq_getElem (by omega))
    refine ⟨b, off, rfl, fun i y hy => ?_⟩
    have hi := (List.getElem?_eq_some_iff.1 hy).1
    rw [← Go.WideShapes.add_plain, hc i hi]
    exact hy

theorem enc_data (s : ByteArray) : encStr s.data.toList = .string s := by
  cases s
  rfl

theorem strs_open {H : Type} {enc : TypeId × Value → H} {W : World} {base : Nat} {spare : Nat → Bool} {held : Bool} {fuel : Nat} {a : Option Addr} {len cap : Nat} {x : DataW H × List MemPlace}
    (h : DataW.trod enc Try.prog W base spare held fuel 22 [.slice a len cap] = some x) : ∃ ss : List (List UInt8), Sl W (.slice a len cap) (ss.map encStr) := by
  rcases open_strings Try.underlying22 Try.underlying9 cells9 h with ⟨hcs, _⟩ | ⟨y, l, c, ss, hcs, _, hl, hm, hz, _, hcell, hws⟩
  · simp at hcs
    obtain ⟨rfl, rfl, rfl⟩ := hcs
    exact ⟨[], none, 0, rfl, .inl rfl⟩
  · simp at hcs
    obtain ⟨rfl, rfl, rfl⟩ := hcs
    have hle : len ≤ ss.length := by rw [hz]; split <;> omega
    refine ⟨(ss.take len).map fun s => s.data.toList, sl_of (by simp; omega) (fun i hi => ?_)⟩
    rw [hcell i (by omega)]
    have hi' : i < ss.length := by omega
    simp only [List.map_map, List.getElem?_map, List.getElem?_take, if_pos hi, List.getElem?_eq_getElem hi', Option.map_some, Function.comp, enc_data, List.getD_eq_getElem?_getD, Option.getD_some]

theorem ints_open {H : Type} {enc : TypeId × Value → H} {W : World} {base : Nat} {spare : Nat → Bool} {held : Bool} {fuel : Nat} {v : Value} {x : DataW H × List MemPlace}
    (h : DataW.trod enc Try.prog W base spare held fuel 47 [v] = some x) : ∃ d : List Int, Sl W v (ints d) := by
  rcases open_ints Try.underlying47 Try.underlying3 cells3 h with ⟨hcs, _⟩ | ⟨y, len, cap, zs, hcs, _, hl, hm, hz, _, hcell, _⟩
  · simp at hcs
    subst hcs
    exact ⟨[], none, 0, rfl, .inl rfl⟩
  · simp at hcs
    subst hcs
    have hle : len ≤ zs.length := by rw [hz]; split <;> omega
    refine ⟨zs.take len, sl_of (by simp [ints]; omega) (fun i hi => ?_)⟩
    rw [hcell i (by omega)]
    have hi' : i < zs.length := by omega
    simp only [ints, List.getElem?_map, List.getElem?_take, if_pos hi, List.getElem?_eq_getElem hi', Option.map_some, List.getD_eq_getElem?_getD, Option.getD_some]

theorem rows_open {H : Type} {enc : TypeId × Value → H} {W : World} {base : Nat} {spare : Nat → Bool} {held : Bool} {fuel : Nat} {a : Option Addr} {len cap : Nat} {x : DataW H × List MemPlace}
    (h : DataW.trod enc Try.prog W base spare held fuel 23 [.slice a len cap] = some x) : ∃ dss : List (List Int), Grid W (.slice a len cap) (dss.map ints) := by
  rcases Deep.open_slice1 Try.underlying23 cells47 h with ⟨hcs, _⟩ | ⟨y, l, c, m, n, V, D, Pl, hcs, _, hl, hm, hmm, _, hx⟩
  · simp at hcs
    obtain ⟨rfl, rfl, rfl⟩ := hcs
    exact ⟨[], [], ⟨none, 0, rfl, .inl rfl⟩, rfl, fun i h xs hh => by simp at hh⟩
  · simp at hcs
    obtain ⟨rfl, rfl, rfl⟩ := hcs
    have hle : len ≤ m := by rw [hmm]; split <;> omega
    have each : ∀ i, i < len → ∃ d : List Int, Sl W (V i) (ints d) := fun i hi => ints_open (hx i (by omega)).2
    obtain ⟨S, hS⟩ := Deep.choose_lt (α := List Int) (p := fun i d => Sl W (V i) (ints d)) each
    refine ⟨(List.range len).map S, (List.range len).map V, sl_of (by simp) (fun i hi => ?_), by simp, fun i h xs hh hxs => ?_⟩
    · rw [(hx i (by omega)).1]
      simp [hi]
    · have hi : i < len := by
        have := (List.getElem?_eq_some_iff.1 hh).1
        simpa using this
      simp [hi] at hh hxs
      subst hh
      subst hxs
      exact hS i hi
end Go.Proofs.Qxb6616078a
