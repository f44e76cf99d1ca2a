/- Cycles. -/
import Derived.Test.Qxb6616078aCyc
import Derived.Test.Qxb6616078aPeel
namespace Go.Proofs.Qxb6616078a
open Go.RowKit Tj

theorem reach_agree {adj adj' : Nat → List Nat} {n : Nat} (he : ∀ v, v < n → adj v = adj' v) (hl : ∀ u, u < n → ∀ v ∈ adj' u, v < n) {u v : Nat} (hu : u < n) : Tj.Reach adj u v ↔ Tj.Reach adj' u v := by
  constructor
  · rintro ⟨l, h⟩
    refine ⟨l, ?_⟩
    induction l generalizing u with
    | nil => exact h
    | cons x l ih =>
      have h1 : x ∈ adj' u := by rw [← he u hu]; exact h.1
      exact ⟨h1, ih (hl u hu x h1) h.2⟩
  · rintro ⟨l, h⟩
    refine ⟨l, ?_⟩
    induction l generalizing u with
    | nil => exact h
    | cons x l ih =>
      have h1 : x ∈ adj u := by rw [he u hu]; exact h.1
      exact ⟨h1, ih (hl u hu x h.1) h.2⟩

theorem adjOf_lt {ds : List (List Nat)} {n : Nat} (hn : ds.length = n) (hlt : ∀ d ∈ ds, ∀ x ∈ d, x < n) : ∀ u, u < n → ∀ v ∈ adjOf ds u, v < n := fun u hu v hv => by
  have hu' : u < ds.length := by omega
  rw [adjOf_at (List.getElem?_eq_getElem hu')] at hv
  exact hlt _ (List.getElem_mem hu') v hv

set_option maxHeartbeats 1000000 in
set_option maxRecDepth 100000 in
theorem cycles13 (w : World) (g : Nat) (ss : List (List UInt8)) (ds : List (List Nat)) (h : GraphAt w g ss (ds.map nums)) (hn : ss.length ≤ 4096) (hnd : ds.length = ss.length) (hsum : (ds.map List.length).sum ≤ 131072) (hlt : ∀ d ∈ ds, ∀ x ∈ d, x < ss.length) (hss : ss.Nodup) : Calls Try.prog 13 #[.pointer (some ⟨g, 0, none⟩)] w (CycRes ss (adjOf ds) w) := by
  have HI : Hid (∀ w', w = w' → Calls Try.prog 31 #[.pointer (some ⟨g, 0, none⟩)] w' (IdxRes ss ds w')) := fun w' e => by
    subst e
    exact idx31 w g ss ds h hn hnd hsum hlt
  have HC : Hid (∀ (A : Adj) (nv : Value) (b : Nat) (w1 : World), A.n = ss.length → (∀ v, v < ss.length → A.adj v = adjOf ds v) → A.Ok → A.st A.n ≤ A.cl → A.At w1 w1.heap.size → Sl0 w1 nv (ss.map encStr) → Chg (fun _ => False) w w1 → Calls Try.prog 32 #[.agg #[nv, .map (some b), A.sv, A.lv]] w1 (fun e w' => CycRes ss (adjOf ds) w e w' ∧ ∃ a1 l1 c1 a2 l2 c2, e = .returned (.tuple #[.slice a1 l1 c1, .slice a2 l2 c2]))) := fun A nv b w1 h1 h2 h3 h4 h5 h6 h7 => by
    refine (cyc32 w1 A nv b ss h3 h4 h5 h6 h1 hn hss).mono ?_
    rintro e w' ⟨vg, vs, gs, sl, rfl, hg, hs, hG, hS, hgl, hc⟩
    have hl := adjOf_lt hnd hlt
    obtain ⟨a1, c1, e1, _⟩ := hg.shape
    obtain ⟨a2, c2, e2⟩ := hs.shape
    refine ⟨⟨vg, vs, gs, sl, rfl, hg, hs, hG.iff fun u v hu hv => ?_, ?_, hgl, h7.trans hc (fun _ h => h.elim)⟩, a1, _, c1, a2, _, c2, by rw [e1, e2]⟩
    · rw [reach_agree h2 hl hu, reach_agree h2 hl hv]
    · obtain ⟨l, k1, k2, k3⟩ := hS
      refine ⟨l, k1, fun v => ?_, k3⟩
      rw [k2]
      constructor
      · rintro ⟨p, q⟩; exact ⟨p, by show v ∈ adjOf ds v; rw [← h2 v p]; exact q⟩
      · rintro ⟨p, q⟩; exact ⟨p, by show v ∈ A.adj v; rw [h2 v p]; exact q⟩
  clear h hn hnd hsum hlt hss
  go_enter Try.func13, Try.ntmps13
  go_wp2_with (first | (go_at_call 31; refine (HI.out _ rfl).mono ?_; rintro e w1 ⟨A, nv, b, rfl, h1, h2, h3, h4, h5, h6, h7⟩; have H2 : Hid (Calls Try.prog 32 #[.agg #[nv, .map (some b), A.sv, A.lv]] w1 (fun e w' => CycRes ss (adjOf ds) w e w' ∧ ∃ a1 l1 c1 a2 l2 c2, e = .returned (.tuple #[.slice a1 l1 c1, .slice a2 l2 c2]))) := HC.out A nv b w1 h1 h2 h3 h4 h5 h6 h7; clear h1 h2 h3 h4 h5 h6 h7; generalize A.sv = v1 at *; generalize A.lv = v2 at *) | (go_at_call 32; refine H2.out.mono ?_; rintro e w2 ⟨hr, a1, l1, c1, a2, l2, c2, rfl⟩; have HR : Hid (CycRes ss (adjOf ds) w (.returned (.tuple #[.slice a1 l1 c1, .slice a2 l2 c2])) w2) := hr; clear hr))
  go_ret2
  exact HR.out
end Go.Proofs.Qxb6616078a
