/- The proof of the given statement: the walk of the law's own text out of its callees' contracts; behind it the row's step as the guide's template has it. -/
import Derived.Test.Qxb6614855aRows
import Derived.Test.Qxb6614855aWalks
import Derived.WalkKit
import Derived.ProofKit
import Derived.OpenShut
import Derived.ShutString
namespace Go.Proofs.Qxb6614855a.fnLengthBracketsTheIntegerRoot
open Go.ChangeShapes Go.WideShapes Go.ChangeAt Go.RowKit
open Go.ChangeMaps (open_string shut_string)
set_option linter.unusedVariables false      -- a walk need not use every 'w<i>' (that an integer argument fits its kind)

theorem own : ownKnob Try.prog.godebug = none := by kernel_rfl

/-! ### STEP 1: THE WALK: the Go text returns true. 'Grown w w'': the world has at most new blocks (Derived/RowKit3.lean). Part the cases AHEAD of 'go_enter' where a test parts the walk; take each callee by a contract of your own. -/

set_option maxHeartbeats 1000000 in
theorem walk_one (w : World) :
    Calls Try.prog 3 #[.int .u64 1, .int .u64 0] w fun e w' => e = .returned (.bool true) ∧ Grown w w' := by
  have hD : Hid (Dist 1 0 18446744073709551616) := .inr ⟨rfl, rfl, rfl⟩
  go_enter Try.func3, Try.ntmps3
  go_wp2_with (fail)
  refine (isqrt_one 0 _).mono ?_
  rintro e w' ⟨rfl, rfl⟩
  go_wp2_with (fail)
  refine (zzlength_any _ _ _ hD.out _).mono ?_
  rintro e w' ⟨rfl, hg⟩
  have o1 := eql_root 4294967296 (by omega)
  have o2 := leq_next 18446744073709551616 4294967296 (by omega) (by omega) (by omega)
  have e1 : (((4294967296 : Nat) : Int)) = 4294967296 := rfl
  have e3 : (((4294967296 : Nat) : Int) + 1) = 4294967297 := rfl
  have e2 : 4294967296 * 4294967296 = 18446744073709551616 := rfl
  rw [e2, e1] at o1
  rw [e3] at o2
  clear e1 e2 e3
  rcases o2 with o2 | o2
  · go_wp2
    go_ret
    exact ⟨rfl, hg⟩
  · go_wp2
    go_ret
    exact ⟨rfl, hg⟩

theorem sq_wrap (s : Nat) (h : s < 4294967296) : IntKind.u64.wrap ((s : Int) * (s : Int)) = ((s * s : Nat) : Int) := by
  have hs := Nat.mul_le_mul (show s ≤ 4294967295 by omega) (show s ≤ 4294967295 by omega)
  rw [← Int.natCast_mul]
  exact IntWalk.u64_in _ ⟨by omega, by omega⟩

set_option maxHeartbeats 1000000 in
theorem walk_zero (d : Nat) (hd : d ≤ 18446744073709551615) (w : World) :
    Calls Try.prog 3 #[.int .u64 0, .int .u64 d] w fun e w' => e = .returned (.bool true) ∧ Grown w w' := by
  have hD : Hid (Dist 0 d d) := .inl ⟨rfl, rfl, hd⟩
  go_enter Try.func3, Try.ntmps3
  go_wp2_with (fail)
  refine (isqrt_zero _ (by omega) (by omega) _).mono ?_
  rintro e w' ⟨⟨s, h1, h2, h3, rfl⟩, rfl⟩
  have h2' : s * s ≤ d := by omega
  have h3' : d < (s + 1) * (s + 1) := by omega
  clear h2 h3
  go_wp2_with (fail)
  refine (zzlength_any _ _ _ hD.out _).mono ?_
  rintro e w' ⟨rfl, hg⟩
  have o1 := geq_root d s (by omega) (by omega) h2'
  have o2 := leq_next d s (by omega) (by omega) h3'
  have hsq := sq_wrap s h1
  by_cases c : s * s = d
  · have o3 := eql_root s (by omega)
    rw [c] at o3 hsq
    clear o1 c h2' h3'
    rcases o2 with o2 | o2
    · go_wp2
      go_ret
      exact ⟨rfl, hg⟩
    · go_wp2
      go_ret
      exact ⟨rfl, hg⟩
  · have hb : (((s * s : Nat) : Int) == (d : Int)) = false := by simpa using (by omega : ¬ ((s * s : Nat) : Int) = (d : Int))
    rw [← hsq] at hb
    clear hsq c h2' h3'
    rcases o1 with o1 | o1 <;> rcases o2 with o2 | o2
    all_goals
      go_wp2
      go_ret
      exact ⟨rfl, hg⟩

theorem walk (a0 : Int) (a1 : Int) (w0 : (Lit.int .u64 a0).wf = true) (w1 : (Lit.int .u64 a1).wf = true) (w : World) :
    Calls Try.prog 3 #[.int .u64 a0, .int .u64 a1] w fun e w' => e = .returned (.bool true) ∧ Grown w w' := by
  have b0 := bounds_u64 w0
  have b1 := bounds_u64 w1
  by_cases c0 : a0 = 0
  · subst c0
    obtain ⟨d, rfl⟩ : ∃ d : Nat, a1 = (d : Int) := ⟨a1.toNat, by omega⟩
    exact walk_zero d (by omega) w
  · by_cases c1 : a0 = 1
    · subst c1
      by_cases c2 : a1 = 0
      · subst c2
        exact walk_one w
      · have hn : (a1 != 0) = true := by simpa using c2
        clear c0 c2
        go_enter Try.func3, Try.ntmps3
        go_wp2
        go_ret
        exact ⟨rfl, Grown.refl _⟩
    · have hn : 1 < a0 := by omega
      clear c0 c1
      go_enter Try.func3, Try.ntmps3
      go_wp2
      go_ret
      exact ⟨rfl, Grown.refl _⟩

/-! ### THE ROW's STEP: WRITTEN OUT: LEAVE IT -/
set_option maxRecDepth 100000 in
theorem lifted (os : Os) (started : os.Started) (H : Type) (enc : TypeId × Value → H) :
    ReturnsInHanded {} Try.checked os 3 .any (Rows.fnLengthBracketsTheIntegerRootSpec.pre6 enc Try.prog Try.f3 Rows.fnLengthBracketsTheIntegerRootRow.domain false) (Rows.fnLengthBracketsTheIntegerRootSpec.post enc Try.prog Try.f3 false true false false) := by
  refine returnsInHanded_of_change (C := Try.checked) own started (by kernel_rfl) Try.func3
    (ChangeSpec.witness6 (enc := enc) (C := Try.checked) false ⟨#[], #[.int .u64 0, .int .u64 0], []⟩ 8 (by kernel_rfl) (by kernel_rfl) (by kernel_rfl) (by kernel_rfl)) ?_
  intro W base args ds gs before hval0 hW hcnd _
  have hval : ∀ (j : Nat) t v, Try.f3.params[j]? = some t → args[j]? = some v → Value.okWide Try.prog W .any base t v := hval0
  have hW' := hW
  obtain ⟨p, q, hA0, hV, rfl, hfz, hnd⟩ := hW
  have hA : DataW.TrodAll enc Try.prog W 0 (fun _ => true) true Try.f3.params.toList args.toList ds p := hA0
  rw [Try.params3] at hA hval
  obtain ⟨v0, vs0, d0, ds0, p0, q0, hargs, rfl, rfl, h0, r0⟩ := trodAll_cons hA
  obtain ⟨v1, vs1, d1, ds1, p1, q1, rfl, rfl, rfl, h1, r1⟩ := trodAll_cons r0
  obtain ⟨rfl, rfl, rfl⟩ := trodAll_nil r1
  obtain rfl : args = #[v0, v1] := by cases args; simp_all
  obtain ⟨rfl, rfl⟩ := trodVars_none hV
  obtain ⟨a0, rfl, rfl, rfl, w0⟩ := open_int Try.underlying22 (hval 0 22 v0 rfl rfl) h0
  obtain ⟨a1, rfl, rfl, rfl, w1⟩ := open_int Try.underlying22 (hval 1 22 v1 rfl rfl) h1
  clear hA0 hval0
  simp only [List.append_nil] at hW'
  refine (walk a0 a1 w0 w1 W).mono fun e W' ⟨he, hg⟩ => ?_
  subst he
  exact ⟨_, rfl, post_of_same (pa := []) (pv := []) hW' (fun _ _ _ => (trodAll_cons_mk (shut_bool Try.underlying4 _) trodAll_mk0)) (fun sp _ => (trodAll_cons_mk (shut_int Try.underlying22 w0) (trodAll_cons_mk (shut_int Try.underlying22 w1) trodAll_mk0))) (fun _ _ => rfl) rfl
    (hg.frame _) hg.2.1 (ok_one (by kernel_rfl) rfl (okWide_bool_mk Try.underlying4 _))⟩

theorem over : Rows.fnLengthBracketsTheIntegerRootRow.holds Try.pinned (OpenSpec.ofChange Rows.fnLengthBracketsTheIntegerRootSpec) :=
  OpenClaim.holds_of_wide 3 Try.f3 rfl rfl rfl rfl rfl rfl rfl ⟨rfl, rfl, rfl, rfl, rfl⟩ rfl rfl rfl rfl rfl (by kernel_rfl) Try.func3 (by kernel_rfl)
    (of_decide_eq_true (by kernel_rfl)) (by unfold Func.isWrapper; first | (rw [if_pos (by decide +kernel)]; kernel_rfl) | (rw [if_neg (by decide +kernel)]; exact ⟨rfl, rfl⟩))
    (fun os started H enc _ => lifted os started H enc)

/-- ████ THE STATEMENT ████ -/
theorem proved : Rows.FnLengthBracketsTheIntegerRootSaid :=
  over
#print axioms proved
end Go.Proofs.Qxb6614855a.fnLengthBracketsTheIntegerRoot
