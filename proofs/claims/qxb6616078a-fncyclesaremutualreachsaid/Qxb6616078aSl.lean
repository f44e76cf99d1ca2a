/- Slices as they read, whoever owns them. -/
import Derived.Test.Qxb6616078aOwn
namespace Go.Proofs.Qxb6616078a
open Go.RowKit

/-- A slice that reads as those values. -/
def Sl (w : World) (v : Value) (vs : List Value) : Prop := ∃ a c, v = .slice a vs.length c ∧ (vs = [] ∨ ∃ b o, a = some ⟨b, o, none⟩ ∧ ∀ i x, vs[i]? = some x → w.cell? ⟨b, o + i, none⟩ = some x)
/-- The same, from its block's first cell on. -/
def Sl0 (w : World) (v : Value) (vs : List Value) : Prop := ∃ a c, v = .slice a vs.length c ∧ (vs = [] ∨ ∃ b, a = some ⟨b, 0, none⟩ ∧ ∀ i x, vs[i]? = some x → w.cell? ⟨b, i, none⟩ = some x)

theorem Sl0.sl {w : World} {v : Value} {vs : List Value} (h : Sl0 w v vs) : Sl w v vs := by
  obtain ⟨a, c, hv, h⟩ := h
  refine ⟨a, c, hv, ?_⟩
  rcases h with h | ⟨b, ha, h⟩
  · exact .inl h
  · exact .inr ⟨b, 0, ha, fun i x hx => by rw [Nat.zero_add]; exact h i x hx⟩
theorem Sl.chg {w w1 : World} {v : Value} {vs : List Value} (h : Sl w v vs) (hc : Chg (fun _ => False) w w1) : Sl w1 v vs := by
  obtain ⟨a, c, hv, h⟩ := h
  refine ⟨a, c, hv, ?_⟩
  rcases h with h | ⟨b, o, ha, h⟩
  · exact .inl h
  · exact .inr ⟨b, o, ha, fun i x hx => hc.cell (h i x hx) (fun hf => hf)⟩
theorem Sl0.chg {w w1 : World} {v : Value} {vs : List Value} (h : Sl0 w v vs) (hc : Chg (fun _ => False) w w1) : Sl0 w1 v vs := by
  obtain ⟨a, c, hv, h⟩ := h
  refine ⟨a, c, hv, ?_⟩
  rcases h with h | ⟨b, ha, h⟩
  · exact .inl h
  · exact .inr ⟨b, ha, fun i x hx => hc.cell (h i x hx) (fun hf => hf)⟩
theorem Sl.chgF {F : Nat → Prop} {w w1 : World} {v : Value} {vs : List Value} (h : Sl w v vs) (hc : Chg F w w1) (hF : ∀ k, v.ownBlock = some k → ¬ F k) : Sl w1 v vs := by
  obtain ⟨a, c, hv, h⟩ := h
  refine ⟨a, c, hv, ?_⟩
  rcases h with h | ⟨b, o, ha, h⟩
  · exact .inl h
  · subst ha
    subst hv
    exact .inr ⟨b, o, rfl, fun i x hx => hc.cell (h i x hx) (hF b rfl)⟩
/-- The row of a slice that grows. -/
theorem Row.sl0 {w : World} {base : Nat} {e : TypeId} {v : Value} {n : Nat} {xs : List Value} (h : w.ownsRow base e 1 v n xs) : Sl0 w v xs := by
  have h1 := h.1
  rw [Nat.mul_one] at h1
  rcases Row.look h with ⟨hv, hn, hx⟩ | ⟨g, cap, hv, _, _, _, _, hc, _⟩
  · exact ⟨none, 0, by rw [hv, h1, hn], .inl hx⟩
  · exact ⟨_, cap, by rw [hv, h1], .inr ⟨g, rfl, hc⟩⟩

/-- Rows of a slice of slices. -/
def Grid (w : World) (v : Value) (xss : List (List Value)) : Prop := ∃ hs, Sl w v hs ∧ hs.length = xss.length ∧ ∀ (i : Nat) (h : Value) (xs : List Value), hs[i]? = some h → xss[i]? = some xs → Sl w h xs
theorem Grid.chg {w w1 : World} {v : Value} {xss : List (List Value)} (h : Grid w v xss) (hc : Chg (fun _ => False) w w1) : Grid w1 v xss := by
  obtain ⟨hs, h1, h2, h3⟩ := h
  exact ⟨hs, h1.chg hc, h2, fun i h xs hh hx => (h3 i h xs hh hx).chg hc⟩

theorem chg_ge {F : Nat → Prop} {w w1 : World} (h : Chg F w w1) (hF : ∀ k, F k → w.heap.size ≤ k) : Chg (fun _ => False) w w1 := h.mono (fun b hb => .inr (hF b hb))
theorem chg_new {F : Nat → Prop} {w w1 w2 : World} (h : Chg (fun _ => False) w w1) (k : Chg F w1 w2) (hF : ∀ b, F b → w.heap.size ≤ b) : Chg (fun _ => False) w w2 := h.trans k (fun b hb => .inr (hF b hb))
end Go.Proofs.Qxb6616078a
