/- cycles$2: groups by their first names. -/
import Derived.Test.Qxb6616078aShelf
import Derived.Test.Qxb6616078aSl
import Derived.Deep.QuietTactic
import Derived.BigQuiet
namespace Go.Proofs.Qxb6616078a
open Go.RowKit

set_option maxHeartbeats 1000000 in
theorem cmp_any (b1 n1 c1 b2 n2 c2 : Nat) (s1 s2 : List UInt8) (w : World) (h1 : 0 < n1) (h2 : 0 < n2) (d1 : w.cell? ⟨b1, 0, none⟩ = some (encStr s1)) (d2 : w.cell? ⟨b2, 0, none⟩ = some (encStr s2)) :
    Calls Try.prog 46 #[.slice (some ⟨b1, 0, none⟩) n1 c1, .slice (some ⟨b2, 0, none⟩) n2 c2] w fun e w' => e = .returned (.int .i64 (Lib.compareBytes s1 s2)) ∧ ∃ q, w' = w.drewN q := by
  have z1 : (0 : Int) < (n1 : Int) := by omega
  have z2 : (0 : Int) < (n2 : Int) := by omega
  have hcon : ∀ w, Calls Try.prog 47 #[encStr s1, encStr s2] w fun e w' => e = .returned (.int .i64 (Lib.compareBytes s1 s2)) ∧ w' = w := fun w => by
    have := Try.strings_Compare ⟨s1.toArray⟩ ⟨s2.toArray⟩ w
    simpa using this
  generalize Lib.compareBytes s1 s2 = r at hcon ⊢
  have HCon : Hid (∀ w, Calls Try.prog 47 #[encStr s1, encStr s2] w fun e w' => e = .returned (.int .i64 r) ∧ w' = w) := hcon
  clear hcon
  generalize encStr s1 = x1 at d1 HCon
  generalize encStr s2 = x2 at d2 HCon
  go_enter Try.func46, Try.ntmps46
  go_wp2
  go_quiet (first | (go_at_call 47; refine Calls.quiet_of_same (HCon.out _)))
  go_wp2
  go_ret
  exact ⟨rfl, _, rfl⟩
end Go.Proofs.Qxb6616078a
