/- adjacency.of. -/
import Derived.Test.Qxb6616078aRun
import Derived.Deep.QuietTactic
import Derived.BigQuiet
namespace Go.Proofs.Qxb6616078a
open Go.RowKit Tj

theorem chg_ad (w : World) (o : Obj) (j : Nat) : Chg (fun _ => False) w ((w.alloc o).drewN j) := ⟨rfl, rfl, rfl, (Chg.alloc (fun _ => False) w o).size, (Chg.alloc (fun _ => False) w o).block⟩

/-- What 'of' hands back. -/
def OfRes (A : Adj) (v : Nat) (e : Ending) (w w' : World) : Prop := ∃ a c, e = .returned (.slice a (A.st (v + 1) - A.st v) c) ∧ (A.st (v + 1) - A.st v = 0 ∨ a = some ⟨A.bl, A.st v, none⟩) ∧ Chg (fun _ => False) w w'

set_option maxHeartbeats 1000000 in
set_option maxRecDepth 100000 in
theorem of_any (A : Adj) (N0 : Nat) (hok : A.Ok) (hcl : A.st A.n ≤ A.cl) (w : World) (hA : A.At w N0) (v : Nat) (hv : v < A.n) :
    Calls Try.prog 43 #[.agg #[A.sv, A.lv], .int .i64 v] w fun e w' => OfRes A v e w w' := by
  have h1 := hok.mono v hv
  have h2 := hok.top (v + 1) (by omega)
  have h3 := hA.st0 A.n
  have hn := hA.n0
  have hb1 := hA.bs
  have hb2 := hA.bl
  obtain ⟨W, hW⟩ : ∃ W, W = w.alloc (.cells #[A.sv, A.lv] 53) := ⟨_, rfl⟩
  have hc : Chg (fun _ => False) w W := hW ▸ Chg.alloc _ _ _
  have d1 : (w.alloc (.cells #[A.sv, A.lv] 53)).cell? ⟨A.bs, v, none⟩ = some (.int .i64 (A.st v)) := hW ▸ hc.cell (hA.sc v (by omega)) (fun h => h)
  have d2 : (w.alloc (.cells #[A.sv, A.lv] 53)).cell? ⟨A.bs, v + 1, none⟩ = some (.int .i64 (A.st (v + 1))) := hW ▸ hc.cell (hA.sc (v + 1) (by omega)) (fun h => h)
  clear hA hW hc
  have z1 : (A.st v : Int) ≤ (A.st (v + 1) : Int) := by omega
  have z2 : (A.st (v + 1) : Int) ≤ (A.cl : Int) := by omega
  unfold Adj.sv Adj.lv at *
  go_enter Try.func43, Try.ntmps43
  go_wp2
  go_quiet (fail)
  go_wp2
  · have e0 : A.st (v + 1) - A.st v = 0 := by omega
    go_ret
    exact ⟨_, _, rfl, .inl e0, chg_ad _ _ _⟩
  · go_ret
    exact ⟨_, _, rfl, .inr rfl, chg_ad _ _ _⟩
end Go.Proofs.Qxb6616078a
