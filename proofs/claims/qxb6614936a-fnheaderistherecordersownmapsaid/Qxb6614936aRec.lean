/- The recorder's small functions, one contract each. -/
import Derived.Test.Qxb6614936aMap
import Derived.WalkKit
import Derived.ProofKit
import Derived.Below
import Derived.WalkLawsBesides
import Derived.Outline
namespace Go.Proofs.Qxb6614936a
open Go.ChangeShapes Go.WideShapes Go.ChangeAt Go.RowKit

theorem new_any (m : Option Nat) (s : Int) (w : World) :
    Calls Try.prog 9 #[.map m, .int .i64 s] w fun e w' => e = .returned (.pointer (some ⟨w.heap.size, 0, none⟩)) ∧ w.alloc (.cells #[.map m, .int .i64 s] 48) = w' := by
  have hb := build48
  go_enter Try.func9, Try.ntmps9
  go_wp2
  go_ret
  exact ⟨rfl, rfl⟩

theorem write_any (p : Value) (a : Option Addr) (len cap : Nat) (w : World) :
    Calls Try.prog 13 #[p, .slice a len cap] w fun e w' => e = .returned (.tuple #[.int .i64 len, .nilIface]) ∧ w = w' := by
  go_enter Try.func13, Try.ntmps13
  go_wp2
  go_ret2
  exact ⟨rfl, rfl⟩

theorem status_any (b : Nat) (s : Int) (w : World) (h : w.cell? ⟨b, 1, none⟩ = some (.int .i64 s)) :
    Calls Try.prog 15 #[.pointer (some ⟨b, 0, none⟩)] w fun e w' => e = .returned (.int .i64 s) ∧ w = w' := by
  go_enter Try.func15, Try.ntmps15
  go_wp2
  go_ret
  exact ⟨rfl, rfl⟩

theorem header_any (b : Nat) (m : Option Nat) (w : World) (h : w.cell? ⟨b, 0, none⟩ = some (.map m)) :
    Calls Try.prog 10 #[.pointer (some ⟨b, 0, none⟩)] w fun e w' => e = .returned (.map m) ∧ w = w' := by
  go_enter Try.func10, Try.ntmps10
  go_wp2
  go_ret
  exact ⟨rfl, rfl⟩
end Go.Proofs.Qxb6614936a
