/- The walk of Compact: its first statement leaves its order open. -/
import Derived.Test.Qxb6616152aSto
namespace Go.Proofs.Qxb6616152a
open Go.ChangeShapes Go.WideShapes Go.ChangeAt Go.RowKit

set_option maxHeartbeats 4000000 in
theorem compact_walk (b : Nat) (term vote i0 t0 : Int) (dv : Value) (la : Option Addr) (ll lc : Nat) (xs : List (Int × Int)) (idx nt : Int) (da : Option Addr) (dl dc : Nat) (cut : Nat) (w : World)
    (h : Sto w b term vote i0 t0 dv (.slice la ll lc)) (hx : EntsAt w la ll xs) (hcut : cut ≤ ll) (hcap : ll ≤ lc) (hidx : IntKind.u64.wrap (idx - i0) = (cut : Int)) :
    Calls Try.prog 8 #[.pointer (some ⟨b, 0, none⟩), .agg #[.int .u64 idx, .int .u64 nt, .slice da dl dc]] w fun e w' => e = .returned (.tuple #[]) ∧ ∃ la' lc', Sto w' b term vote idx nt (.slice da dl dc) (.slice la' (ll - cut) lc') ∧ EntsAt w' la' (ll - cut) (xs.drop cut) ∧ w.grownBy w' (some b) ∧ (∀ y, la' = some y → y.block ≠ b) := by
  have H : Hid (Sto w b term vote i0 t0 dv (.slice la ll lc)) := h
  have hlt := h.lt
  obtain ⟨c0, c1, c2, c3, c4, c5, hf⟩ := h.cells
  clear h
  have HX : Hid (EntsAt w la ll xs) := hx
  clear hx
  have hbox : Hid (Below w.heap.size w (w.alloc (.cells #[.int .u64 idx, .int .u64 nt, .slice da dl dc] 30))) := (Below.refl _ _).alloc (Nat.le_refl _) _
  by_cases hcc : lc = cut
  · have HC : Hid (EntsAt (w.alloc (.cells #[.int .u64 idx, .int .u64 nt, .slice da dl dc] 30)).drew la (ll - cut) (xs.drop cut)) := ⟨by simp [HX.out.1], by omega, .inl (by omega)⟩
    go_enter Try.func8, Try.ntmps8
    go_wp2
    go_region_with (go_at_call 11; refine (sclone_any _ _ _ (xs.drop cut) _ HC.out).mono ?_; rintro e w2 ⟨a', cap', rfl, hE, hB, hy⟩; obtain ⟨f0, f1, f2, f3, f4, f5, f6, f7, f8⟩ := behind H.out hB)
    all_goals
      have hend := compact_end (cap' := cap') H.out hB f8 hE hy
      have HEnd : Hid (∃ la' lc', Sto ((((w2.setCell ⟨b, 5, none⟩ (.slice a' (ll - cut) cap')).setCell ⟨b, 2, none⟩ (.int .u64 idx)).setCell ⟨b, 3, none⟩ (.int .u64 nt)).setCell ⟨b, 4, none⟩ (.slice da dl dc)) b term vote idx nt (.slice da dl dc) (.slice la' (ll - cut) lc') ∧ EntsAt ((((w2.setCell ⟨b, 5, none⟩ (.slice a' (ll - cut) cap')).setCell ⟨b, 2, none⟩ (.int .u64 idx)).setCell ⟨b, 3, none⟩ (.int .u64 nt)).setCell ⟨b, 4, none⟩ (.slice da dl dc)) la' (ll - cut) (xs.drop cut) ∧ w.grownBy ((((w2.setCell ⟨b, 5, none⟩ (.slice a' (ll - cut) cap')).setCell ⟨b, 2, none⟩ (.int .u64 idx)).setCell ⟨b, 3, none⟩ (.int .u64 nt)).setCell ⟨b, 4, none⟩ (.slice da dl dc)) (some b) ∧ (∀ y, la' = some y → y.block ≠ b)) := ⟨a', cap', hend⟩
      clear hend hE hB hy f8 hidx HC H HX hbox
      go_wp2
      go_end0
      exact ⟨rfl, HEnd.out⟩
  · have HC : Hid (EntsAt (w.alloc (.cells #[.int .u64 idx, .int .u64 nt, .slice da dl dc] 30)).drew (Option.map (fun x => x.add (cut * 3)) la) (ll - cut) (xs.drop cut)) := (HX.out.later hbox.out (Nat.le_refl _)).drop cut hcut
    go_enter Try.func8, Try.ntmps8
    go_wp2
    go_region_with (go_at_call 11; refine (sclone_any _ _ _ (xs.drop cut) _ HC.out).mono ?_; rintro e w2 ⟨a', cap', rfl, hE, hB, hy⟩; obtain ⟨f0, f1, f2, f3, f4, f5, f6, f7, f8⟩ := behind H.out hB)
    all_goals
      have hend := compact_end (cap' := cap') H.out hB f8 hE hy
      have HEnd : Hid (∃ la' lc', Sto ((((w2.setCell ⟨b, 5, none⟩ (.slice a' (ll - cut) cap')).setCell ⟨b, 2, none⟩ (.int .u64 idx)).setCell ⟨b, 3, none⟩ (.int .u64 nt)).setCell ⟨b, 4, none⟩ (.slice da dl dc)) b term vote idx nt (.slice da dl dc) (.slice la' (ll - cut) lc') ∧ EntsAt ((((w2.setCell ⟨b, 5, none⟩ (.slice a' (ll - cut) cap')).setCell ⟨b, 2, none⟩ (.int .u64 idx)).setCell ⟨b, 3, none⟩ (.int .u64 nt)).setCell ⟨b, 4, none⟩ (.slice da dl dc)) la' (ll - cut) (xs.drop cut) ∧ w.grownBy ((((w2.setCell ⟨b, 5, none⟩ (.slice a' (ll - cut) cap')).setCell ⟨b, 2, none⟩ (.int .u64 idx)).setCell ⟨b, 3, none⟩ (.int .u64 nt)).setCell ⟨b, 4, none⟩ (.slice da dl dc)) (some b) ∧ (∀ y, la' = some y → y.block ≠ b)) := ⟨a', cap', hend⟩
      clear hend hE hB hy f8 hidx HC H HX hbox
      go_wp2
      go_end0
      exact ⟨rfl, HEnd.out⟩
end Go.Proofs.Qxb6616152a
