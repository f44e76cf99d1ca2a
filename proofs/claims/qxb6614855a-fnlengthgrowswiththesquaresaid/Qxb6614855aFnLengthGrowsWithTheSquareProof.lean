/- The proof of the given statement: the walk of the law's own text out of its callees' contracts; behind it the row's step as the guide's template has it. -/
import Derived.Test.Qxb6614855aRows
import Derived.Test.Qxb6614855aWalks
import Derived.WalkKit
import Derived.ProofKit
import Derived.OpenShut
import Derived.ShutString
namespace Go.Proofs.Qxb6614855a.fnLengthGrowsWithTheSquare
open Go.ChangeShapes Go.WideShapes Go.ChangeAt Go.RowKit
open Go.ChangeMaps (open_string shut_string)
set_option linter.unusedVariables false      -- a walk need not use every 'w<i>' (that an integer argument fits its kind)

theorem own : ownKnob Try.prog.godebug = none := by kernel_rfl

/-! ### STEP 1: THE WALK: the Go text returns true. 'Grown w w'': the world has at most new blocks (Derived/RowKit3.lean). Part the cases AHEAD of 'go_enter' where a test parts the walk; take each callee by a contract of your own. -/

set_option maxHeartbeats 2000000 in
theorem walk_up (d1 d2 : Nat) (h1 : d1 ≤ 18446744073709551615) (h2 : d2 ≤ 18446744073709551615) (h : d1 ≤ d2) (w : World) :
    Calls Try.prog 4 #[.int .u64 0, .int .u64 d1, .int .u64 0, .int .u64 d2] w fun e w' => e = .returned (.bool true) ∧ Grown w w' := by
  have hD1 : Hid (Dist 0 d1 d1) := .inl ⟨rfl, rfl, h1⟩
  have hD2 : Hid (Dist 0 d2 d2) := .inl ⟨rfl, rfl, h2⟩
  have o := leq_len d1 d2 h (by omega)
  go_enter Try.func4, Try.ntmps4
  go_wp2_with (fail)
  refine (zzlength_any _ _ d1 hD1.out _).mono ?_
  rintro e w' ⟨rfl, hg1⟩
  go_wp2_with (fail)
  refine (zzlength_any _ _ d2 hD2.out _).mono ?_
  rintro e w' ⟨rfl, hg2⟩
  rcases o with o | o
  all_goals
    go_wp2_with (fail)
    refine (isqrt_any _ _ d2 hD2.out _).mono ?_
    rintro e w' ⟨⟨s, s1, s2, s3, rfl⟩, rfl⟩
    have p := geq_root d2 s (by omega) (by omega) s2
    clear s2 s3
    rcases p with p | p
    all_goals
      go_wp2_with (fail)
      refine (isqrt_any _ _ d1 hD1.out _).mono ?_
      rintro e w' ⟨⟨t, t1, t2, t3, rfl⟩, rfl⟩
      have q := leq_next d1 t (by omega) (by omega) t3
      clear t2 t3
      rcases q with q | q
      all_goals
        go_wp2
        go_ret
        exact ⟨rfl, grown_trans hg1 hg2⟩

set_option maxHeartbeats 2000000 in
theorem walk_down (d1 d2 : Nat) (h1 : d1 ≤ 18446744073709551615) (h2 : d2 ≤ 18446744073709551615) (h : d2 < d1) (w : World) :
    Calls Try.prog 4 #[.int .u64 0, .int .u64 d1, .int .u64 0, .int .u64 d2] w fun e w' => e = .returned (.bool true) ∧ Grown w w' := by
  have hD1 : Hid (Dist 0 d1 d1) := .inl ⟨rfl, rfl, h1⟩
  have hD2 : Hid (Dist 0 d2 d2) := .inl ⟨rfl, rfl, h2⟩
  have o := leq_len d2 d1 (by omega) (by omega)
  go_enter Try.func4, Try.ntmps4
  go_wp2_with (fail)
  refine (zzlength_any _ _ d2 hD2.out _).mono ?_
  rintro e w' ⟨rfl, hg1⟩
  go_wp2_with (fail)
  refine (zzlength_any _ _ d1 hD1.out _).mono ?_
  rintro e w' ⟨rfl, hg2⟩
  rcases o with o | o
  all_goals
    go_wp2_with (fail)
    refine (isqrt_any _ _ d1 hD1.out _).mono ?_
    rintro e w' ⟨⟨s, s1, s2, s3, rfl⟩, rfl⟩
    have p := geq_root d1 s (by omega) (by omega) s2
    clear s2 s3
    rcases p with p | p
    all_goals
      go_wp2_with (fail)
      refine (isqrt_any _ _ d2 hD2.out _).mono ?_
      rintro e w' ⟨⟨t, t1, t2, t3, rfl⟩, rfl⟩
      have q := leq_next d2 t (by omega) (by omega) t3
      clear t2 t3
      rcases q with q | q
      all_goals
        go_wp2
        go_ret
        exact ⟨rfl, grown_trans hg1 hg2⟩

set_option maxHeartbeats 2000000 in
theorem walk_top (d1 : Nat) (h1 : d1 ≤ 18446744073709551615) (w : World) :
    Calls Try.prog 4 #[.int .u64 0, .int .u64 d1, .int .u64 1, .int .u64 0] w fun e w' => e = .returned (.bool true) ∧ Grown w w' := by
  have hD1 : Hid (Dist 0 d1 d1) := .inl ⟨rfl, rfl, h1⟩
  have hD0 : Hid (Dist 1 0 18446744073709551616) := .inr ⟨rfl, rfl, rfl⟩
  have o := leq_len d1 18446744073709551616 (by omega) (by omega)
  go_enter Try.func4, Try.ntmps4
  go_wp2_with (fail)
  refine (zzlength_any _ _ d1 hD1.out _).mono ?_
  rintro e w' ⟨rfl, hg1⟩
  go_wp2_with (fail)
  refine (zzlength_any _ _ 18446744073709551616 hD0.out _).mono ?_
  rintro e w' ⟨rfl, hg2⟩
  rcases o with o | o
  all_goals
    go_wp2_with (fail)
    refine (isqrt_any _ _ 18446744073709551616 hD0.out _).mono ?_
    rintro e w' ⟨⟨s, s1, s2, s3, rfl⟩, rfl⟩
    have p := geq_root 18446744073709551616 s (by omega) (by omega) s2
    clear s2 s3
    rcases p with p | p
    all_goals
      go_wp2_with (fail)
      refine (isqrt_any _ _ d1 hD1.out _).mono ?_
      rintro e w' ⟨⟨t, t1, t2, t3, rfl⟩, rfl⟩
      have q := leq_next d1 t (by omega) (by omega) t3
      clear t2 t3
      rcases q with q | q
      all_goals
        go_wp2
        go_ret
        exact ⟨rfl, grown_trans hg1 hg2⟩

set_option maxHeartbeats 2000000 in
theorem walk_topdown (d2 : Nat) (h2 : d2 ≤ 18446744073709551615) (w : World) :
    Calls Try.prog 4 #[.int .u64 1, .int .u64 0, .int .u64 0, .int .u64 d2] w fun e w' => e = .returned (.bool true) ∧ Grown w w' := by
  have hD2 : Hid (Dist 0 d2 d2) := .inl ⟨rfl, rfl, h2⟩
  have hD0 : Hid (Dist 1 0 18446744073709551616) := .inr ⟨rfl, rfl, rfl⟩
  have o := leq_len d2 18446744073709551616 (by omega) (by omega)
  go_enter Try.func4, Try.ntmps4
  go_wp2_with (fail)
  refine (zzlength_any _ _ d2 hD2.out _).mono ?_
  rintro e w' ⟨rfl, hg1⟩
  go_wp2_with (fail)
  refine (zzlength_any _ _ 18446744073709551616 hD0.out _).mono ?_
  rintro e w' ⟨rfl, hg2⟩
  rcases o with o | o
  all_goals
    go_wp2_with (fail)
    refine (isqrt_any _ _ 18446744073709551616 hD0.out _).mono ?_
    rintro e w' ⟨⟨s, s1, s2, s3, rfl⟩, rfl⟩
    have p := geq_root 18446744073709551616 s (by omega) (by omega) s2
    clear s2 s3
    rcases p with p | p
    all_goals
      go_wp2_with (fail)
      refine (isqrt_any _ _ d2 hD2.out _).mono ?_
      rintro e w' ⟨⟨t, t1, t2, t3, rfl⟩, rfl⟩
      have q := leq_next d2 t (by omega) (by omega) t3
      clear t2 t3
      rcases q with q | q
      all_goals
        go_wp2
        go_ret
        exact ⟨rfl, grown_trans hg1 hg2⟩

set_option maxHeartbeats 2000000 in
theorem walk_tops   (w : World) :
    Calls Try.prog 4 #[.int .u64 1, .int .u64 0, .int .u64 1, .int .u64 0] w fun e w' => e = .returned (.bool true) ∧ Grown w w' := by
  have hD0 : Hid (Dist 1 0 18446744073709551616) := .inr ⟨rfl, rfl, rfl⟩
  have o := leq_len 18446744073709551616 18446744073709551616 (by omega) (by omega)
  go_enter Try.func4, Try.ntmps4
  go_wp2_with (fail)
  refine (zzlength_any _ _ 18446744073709551616 hD0.out _).mono ?_
  rintro e w' ⟨rfl, hg1⟩
  go_wp2_with (fail)
  refine (zzlength_any _ _ 18446744073709551616 hD0.out _).mono ?_
  rintro e w' ⟨rfl, hg2⟩
  rcases o with o | o
  all_goals
    go_wp2_with (fail)
    refine (isqrt_any _ _ 18446744073709551616 hD0.out _).mono ?_
    rintro e w' ⟨⟨s, s1, s2, s3, rfl⟩, rfl⟩
    have p := geq_root 18446744073709551616 s (by omega) (by omega) s2
    clear s2 s3
    rcases p with p | p
    all_goals
      go_wp2_with (fail)
      refine (isqrt_any _ _ 18446744073709551616 hD0.out _).mono ?_
      rintro e w' ⟨⟨t, t1, t2, t3, rfl⟩, rfl⟩
      have q := leq_next 18446744073709551616 t (by omega) (by omega) t3
      clear t2 t3
      rcases q with q | q
      all_goals
        go_wp2
        go_ret
        exact ⟨rfl, grown_trans hg1 hg2⟩

/-- What is out of the documented domain is let by at once. -/
theorem walk_out1 (a0 a1 a2 a3 : Int) (h : 1 < a0) (w : World) :
    Calls Try.prog 4 #[.int .u64 a0, .int .u64 a1, .int .u64 a2, .int .u64 a3] w fun e w' => e = .returned (.bool true) ∧ Grown w w' := by
  go_enter Try.func4, Try.ntmps4
  go_wp2
  go_ret
  exact ⟨rfl, Grown.refl _⟩

theorem walk_out2 (a1 a2 a3 : Int) (h : (a1 != 0) = true) (w : World) :
    Calls Try.prog 4 #[.int .u64 1, .int .u64 a1, .int .u64 a2, .int .u64 a3] w fun e w' => e = .returned (.bool true) ∧ Grown w w' := by
  go_enter Try.func4, Try.ntmps4
  go_wp2
  go_ret
  exact ⟨rfl, Grown.refl _⟩

theorem walk_out3 (a1 a2 a3 : Int) (h : 1 < a2) (w : World) :
    Calls Try.prog 4 #[.int .u64 0, .int .u64 a1, .int .u64 a2, .int .u64 a3] w fun e w' => e = .returned (.bool true) ∧ Grown w w' := by
  go_enter Try.func4, Try.ntmps4
  go_wp2
  go_ret
  exact ⟨rfl, Grown.refl _⟩

theorem walk_out4 (a1 a3 : Int) (h : (a3 != 0) = true) (w : World) :
    Calls Try.prog 4 #[.int .u64 0, .int .u64 a1, .int .u64 1, .int .u64 a3] w fun e w' => e = .returned (.bool true) ∧ Grown w w' := by
  go_enter Try.func4, Try.ntmps4
  go_wp2
  go_ret
  exact ⟨rfl, Grown.refl _⟩

theorem walk_out5 (a2 a3 : Int) (h : 1 < a2) (w : World) :
    Calls Try.prog 4 #[.int .u64 1, .int .u64 0, .int .u64 a2, .int .u64 a3] w fun e w' => e = .returned (.bool true) ∧ Grown w w' := by
  go_enter Try.func4, Try.ntmps4
  go_wp2
  go_ret
  exact ⟨rfl, Grown.refl _⟩

theorem walk_out6 (a3 : Int) (h : (a3 != 0) = true) (w : World) :
    Calls Try.prog 4 #[.int .u64 1, .int .u64 0, .int .u64 1, .int .u64 a3] w fun e w' => e = .returned (.bool true) ∧ Grown w w' := by
  go_enter Try.func4, Try.ntmps4
  go_wp2
  go_ret
  exact ⟨rfl, Grown.refl _⟩

theorem walk (a0 : Int) (a1 : Int) (a2 : Int) (a3 : Int) (w0 : (Lit.int .u64 a0).wf = true) (w1 : (Lit.int .u64 a1).wf = true) (w2 : (Lit.int .u64 a2).wf = true) (w3 : (Lit.int .u64 a3).wf = true) (w : World) :
    Calls Try.prog 4 #[.int .u64 a0, .int .u64 a1, .int .u64 a2, .int .u64 a3] w fun e w' => e = .returned (.bool true) ∧ Grown w w' := by
  have b0 := bounds_u64 w0
  have b1 := bounds_u64 w1
  have b2 := bounds_u64 w2
  have b3 := bounds_u64 w3
  rcases (by omega : 1 < a0 ∨ a0 = 1 ∨ a0 = 0) with c | rfl | rfl
  · exact walk_out1 a0 a1 a2 a3 c w
  · by_cases c1 : a1 = 0
    · subst c1
      rcases (by omega : 1 < a2 ∨ a2 = 1 ∨ a2 = 0) with c | rfl | rfl
      · exact walk_out5 a2 a3 c w
      · by_cases c3 : a3 = 0
        · subst c3
          exact walk_tops w
        · exact walk_out6 a3 (by simpa using c3) w
      · obtain ⟨d, rfl⟩ : ∃ d : Nat, a3 = (d : Int) := ⟨a3.toNat, by omega⟩
        exact walk_topdown d (by omega) w
    · exact walk_out2 a1 a2 a3 (by simpa using c1) w
  · obtain ⟨d1, rfl⟩ : ∃ d : Nat, a1 = (d : Int) := ⟨a1.toNat, by omega⟩
    rcases (by omega : 1 < a2 ∨ a2 = 1 ∨ a2 = 0) with c | rfl | rfl
    · exact walk_out3 d1 a2 a3 c w
    · by_cases c3 : a3 = 0
      · subst c3
        exact walk_top d1 (by omega) w
      · exact walk_out4 d1 a3 (by simpa using c3) w
    · obtain ⟨d2, rfl⟩ : ∃ d : Nat, a3 = (d : Int) := ⟨a3.toNat, by omega⟩
      rcases Nat.lt_or_ge d2 d1 with c | c
      · exact walk_down d1 d2 (by omega) (by omega) c w
      · exact walk_up d1 d2 (by omega) (by omega) c w

/-! ### THE ROW's STEP: WRITTEN OUT: LEAVE IT -/
set_option maxRecDepth 100000 in
theorem lifted (os : Os) (started : os.Started) (H : Type) (enc : TypeId × Value → H) :
    ReturnsInHanded {} Try.checked os 4 .any (Rows.fnLengthGrowsWithTheSquareSpec.pre6 enc Try.prog Try.f4 Rows.fnLengthGrowsWithTheSquareRow.domain false) (Rows.fnLengthGrowsWithTheSquareSpec.post enc Try.prog Try.f4 false true false false) := by
  refine returnsInHanded_of_change (C := Try.checked) own started (by kernel_rfl) Try.func4
    (ChangeSpec.witness6 (enc := enc) (C := Try.checked) false ⟨#[], #[.int .u64 0, .int .u64 0, .int .u64 0, .int .u64 0], []⟩ 8 (by kernel_rfl) (by kernel_rfl) (by kernel_rfl) (by kernel_rfl)) ?_
  intro W base args ds gs before hval0 hW hcnd _
  have hval : ∀ (j : Nat) t v, Try.f4.params[j]? = some t → args[j]? = some v → Value.okWide Try.prog W .any base t v := hval0
  have hW' := hW
  obtain ⟨p, q, hA0, hV, rfl, hfz, hnd⟩ := hW
  have hA : DataW.TrodAll enc Try.prog W 0 (fun _ => true) true Try.f4.params.toList args.toList ds p := hA0
  rw [Try.params4] at hA hval
  obtain ⟨v0, vs0, d0, ds0, p0, q0, hargs, rfl, rfl, h0, r0⟩ := trodAll_cons hA
  obtain ⟨v1, vs1, d1, ds1, p1, q1, rfl, rfl, rfl, h1, r1⟩ := trodAll_cons r0
  obtain ⟨v2, vs2, d2, ds2, p2, q2, rfl, rfl, rfl, h2, r2⟩ := trodAll_cons r1
  obtain ⟨v3, vs3, d3, ds3, p3, q3, rfl, rfl, rfl, h3, r3⟩ := trodAll_cons r2
  obtain ⟨rfl, rfl, rfl⟩ := trodAll_nil r3
  obtain rfl : args = #[v0, v1, v2, v3] := by cases args; simp_all
  obtain ⟨rfl, rfl⟩ := trodVars_none hV
  obtain ⟨a0, rfl, rfl, rfl, w0⟩ := open_int Try.underlying22 (hval 0 22 v0 rfl rfl) h0
  obtain ⟨a1, rfl, rfl, rfl, w1⟩ := open_int Try.underlying22 (hval 1 22 v1 rfl rfl) h1
  obtain ⟨a2, rfl, rfl, rfl, w2⟩ := open_int Try.underlying22 (hval 2 22 v2 rfl rfl) h2
  obtain ⟨a3, rfl, rfl, rfl, w3⟩ := open_int Try.underlying22 (hval 3 22 v3 rfl rfl) h3
  clear hA0 hval0
  simp only [List.append_nil] at hW'
  refine (walk a0 a1 a2 a3 w0 w1 w2 w3 W).mono fun e W' ⟨he, hg⟩ => ?_
  subst he
  exact ⟨_, rfl, post_of_same (pa := []) (pv := []) hW' (fun _ _ _ => (trodAll_cons_mk (shut_bool Try.underlying4 _) trodAll_mk0)) (fun sp _ => (trodAll_cons_mk (shut_int Try.underlying22 w0) (trodAll_cons_mk (shut_int Try.underlying22 w1) (trodAll_cons_mk (shut_int Try.underlying22 w2) (trodAll_cons_mk (shut_int Try.underlying22 w3) trodAll_mk0))))) (fun _ _ => rfl) rfl
    (hg.frame _) hg.2.1 (ok_one (by kernel_rfl) rfl (okWide_bool_mk Try.underlying4 _))⟩

theorem over : Rows.fnLengthGrowsWithTheSquareRow.holds Try.pinned (OpenSpec.ofChange Rows.fnLengthGrowsWithTheSquareSpec) :=
  OpenClaim.holds_of_wide 4 Try.f4 rfl rfl rfl rfl rfl rfl rfl ⟨rfl, rfl, rfl, rfl, rfl⟩ rfl rfl rfl rfl rfl (by kernel_rfl) Try.func4 (by kernel_rfl)
    (of_decide_eq_true (by kernel_rfl)) (by unfold Func.isWrapper; first | (rw [if_pos (by decide +kernel)]; kernel_rfl) | (rw [if_neg (by decide +kernel)]; exact ⟨rfl, rfl⟩))
    (fun os started H enc _ => lifted os started H enc)

/-- ████ THE STATEMENT ████ -/
theorem proved : Rows.FnLengthGrowsWithTheSquareSaid :=
  over
#print axioms proved
end Go.Proofs.Qxb6614855a.fnLengthGrowsWithTheSquare
