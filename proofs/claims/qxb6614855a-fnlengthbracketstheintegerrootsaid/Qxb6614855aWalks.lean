/- The walks of the callees: zzIsqrt, Ldexp, length. -/
import Derived.Test.Qxb6614855aRows
import Derived.Test.Qxb6614855aFloat
import Derived.WalkKit
import Derived.ProofKit
import Derived.OpenShut
import Derived.Laws.FloatArith
import Derived.Deep.QuietTactic
import Derived.BigQuiet
import Derived.WalkLawsBesides
import Derived.Outline
namespace Go.Proofs.Qxb6614855a
open Go.ChangeShapes Go.WideShapes Go.ChangeAt Go.RowKit

set_option maxHeartbeats 400000 in
theorem isqrt_one (lo : Int) (w : World) :
    Calls Try.prog 5 #[.int .u64 1, .int .u64 lo] w fun e w' => e = .returned (.int .u64 4294967296) ∧ w' = w := by
  go_enter Try.func5, Try.ntmps5
  go_wp2
  go_ret
  exact ⟨rfl, rfl⟩

theorem mid_cast (a b : Nat) (h : a < b) : (a : Int) + ((b : Int) - (a : Int)) / 2 = ((a + (b - a) / 2 : Nat) : Int) := by omega

theorem mid_sq (a b : Nat) (h : a < b) (hb : b ≤ 4294967296) : IntKind.u64.wrap (((a : Int) + ((b : Int) - (a : Int)) / 2) * ((a : Int) + ((b : Int) - (a : Int)) / 2)) = (((a + (b - a) / 2) * (a + (b - a) / 2) : Nat) : Int) := by
  have e := mid_cast a b h
  rw [e]
  have hm : a + (b - a) / 2 ≤ 4294967295 := by omega
  have hq := Nat.mul_le_mul hm hm
  generalize a + (b - a) / 2 = m at *
  rw [← Int.natCast_mul]
  exact IntWalk.u64_in _ ⟨by omega, by omega⟩

set_option maxHeartbeats 400000 in
theorem isqrt_zero (lo : Int) (h0 : 0 ≤ lo) (h1 : lo ≤ 18446744073709551615) (w : World) :
    Calls Try.prog 5 #[.int .u64 0, .int .u64 lo] w fun e w' => (∃ s : Nat, s < 4294967296 ∧ ((s * s : Nat) : Int) ≤ lo ∧ lo < (((s + 1) * (s + 1) : Nat) : Int) ∧ e = .returned (.int .u64 s)) ∧ w' = w := by
  go_enter Try.func5, Try.ntmps5
  go_wp2
  go_loop [5, 6] (fun l h => ∃ a b : Nat, a < b ∧ b ≤ 4294967296 ∧ ((a * a : Nat) : Int) ≤ lo ∧ lo < ((b * b : Nat) : Int) ∧ l = .int .u64 a ∧ h = .int .u64 b) (fun l h => (intOf h - intOf l).toNat)
  case atStart => exact ⟨0, 4294967296, by omega, by omega, by omega, by omega, rfl, rfl⟩
  case round =>
    obtain ⟨a, b, hab, hb, ha, hlo, rfl, rfl⟩ := hrel
    by_cases hd : 1 < b - a
    · have hs : Hid (IntKind.u64.wrap (((a : Int) + ((b : Int) - (a : Int)) / 2) * ((a : Int) + ((b : Int) - (a : Int)) / 2)) = (((a + (b - a) / 2) * (a + (b - a) / 2) : Nat) : Int)) := mid_sq a b hab hb
      have hc : Hid ((a : Int) + ((b : Int) - (a : Int)) / 2 = ((a + (b - a) / 2 : Nat) : Int)) := mid_cast a b hab
      go_wp2
      · go_round
        case rel =>
          rename_i hle
          rw [hs.out] at hle
          exact ⟨a + (b - a) / 2, b, by omega, hb, hle, hlo, by rw [hc.out], rfl⟩
        case measure => simp [intOf]; omega
      · go_round
        case rel =>
          rename_i hgt
          rw [hs.out] at hgt
          exact ⟨a, a + (b - a) / 2, by omega, by omega, ha, hgt, rfl, by rw [hc.out]⟩
        case measure => simp [intOf]; omega
    · have e : b = a + 1 := by omega
      subst e
      go_wp2
      go_ret
      exact ⟨⟨a, by omega, ha, hlo, rfl⟩, rfl⟩

/-- 'math.Ldexp(0, 64)' is 0; 'math.Ldexp(1, 64)' is 2^64. -/
theorem ldexp_zero (w : World) : Calls Try.prog 9 #[.float .f64 0, .int .i64 64] w fun e w' => e = .returned (.float .f64 0) ∧ w' = w := by
  have o : (FloatKind.f64.format.order 0 0 == some .eq) = true := by decide
  go_enter Try.func9, Try.ntmps9
  go_wp2
  all_goals (go_ret; exact ⟨rfl, rfl⟩)

theorem bits_run (x : Nat) (w : World) : (callFunc 16 #[.float .f64 x]).run Try.prog w = .ok (.value (.int .u64 x)) w := by
  rw [run_callFunc_extern (e := Extern.MathFloatBits.float64bits) Try.func16 (by kernel_rfl) (by kernel_rfl) (by kernel_rfl) (by kernel_rfl)]
  rfl

theorem frombits_run (n : Int) (w : World) : (callFunc 19 #[.int .u64 n]).run Try.prog w = .ok (.value (.float .f64 n.toNat)) w := by
  rw [run_callFunc_extern (e := Extern.MathFloatBits.float64frombits) Try.func19 (by kernel_rfl) (by kernel_rfl) (by kernel_rfl) (by kernel_rfl)]
  rfl

theorem sqrt_run (x r : Nat) (h : Ieee.double.sqrt x = some r) (w : World) : (callFunc 10 #[.float .f64 x]).run Try.prog w = .ok (.value (.float .f64 r)) w := by
  rw [run_callFunc_extern (e := Extern.MathSqrt.sqrt) Try.func10 (by kernel_rfl) (by kernel_rfl) (by kernel_rfl) (by kernel_rfl)]
  have h' : FloatKind.f64.format.sqrt x = some r := h
  change Result.andThen (Sem.run Try.prog (match FloatKind.f64.format.sqrt x with | some r => pure (Value.float .f64 r) | none => do pure (Value.float .f64 (← choose (.nanBits .f64 x x)))) w) _ = _
  rw [h']
  rfl

set_option maxHeartbeats 1000000 in
theorem ldexp_one (w : World) : Calls Try.prog 9 #[.float .f64 4607182418800017408, .int .i64 64] w fun e w' => e = .returned (.float .f64 4895412794951729152) ∧ w' = w := by
  have hb := bits_run
  have hf := frombits_run
  have o0 : (FloatKind.f64.format.order 4607182418800017408 0 == some .eq) = false := by decide +kernel
  have b1 : bits BinOp.andNot IntKind.u64 4607182418800017408 9223372036854775808 = 4607182418800017408 := by decide +kernel
  have b2 : bits BinOp.and IntKind.i64 1023 2047 = 1023 := by decide +kernel
  have b3 : bits BinOp.andNot IntKind.u64 4607182418800017408 9218868437227405312 = 0 := by decide +kernel
  have b4 : bits BinOp.or IntKind.u64 0 4895412794951729152 = 4895412794951729152 := by decide +kernel
  have o1 : (FloatKind.f64.format.order 4607182418800017408 9218868437227405311 == some .gt) = false := by decide +kernel
  have o2 : (FloatKind.f64.format.order 4607182418800017408 4607182418800017408 != some .eq) = false := by decide +kernel
  have o3 : (FloatKind.f64.format.order 4607182418800017408 4503599627370496 == some .lt) = false := by decide +kernel
  have o4 : (FloatKind.f64.format.order 4607182418800017408 18442240474082181119 == some .lt) = false := by decide +kernel
  have hm := fun (t : TypeId) (w : World) => run_float_arith (P := Try.prog) w .mul t .f64 4607182418800017408 4895412794951729152 4895412794951729152 (by decide +kernel)
  go_enter Try.func9, Try.ntmps9
  go_wp2
  go_ret
  exact ⟨rfl, rfl⟩

theorem floatOfInt_nat (n : Nat) : floatOfInt .f64 (n : Int) = Fl.F n := by
  unfold floatOfInt FloatKind.nearest FloatKind.encode Fl.F
  have e1 : decide ((n : Int) < 0) = false := by rw [decide_eq_false_iff_not]; omega
  rw [e1, Int.natAbs_natCast]
  rfl

theorem msqrt_any (x r : Nat) (h : Ieee.double.sqrt x = some r) (w : World) : Calls Try.prog 8 #[.float .f64 x] w fun e w' => e = .returned (.float .f64 r) ∧ w' = w := by
  have hs := sqrt_run x r h
  clear h
  go_enter Try.func8, Try.ntmps8
  go_wp2
  go_ret
  exact ⟨rfl, rfl⟩

theorem grown_drewN {W w' : World} (h : Grown W w') (n : Nat) : Grown W (w'.drewN n) := h

theorem grown_trans {A B C : World} (h1 : Grown A B) (h2 : Grown B C) : Grown A C := ⟨World.keptBut_trans h1.1 (World.keptBut_mono (fun _ f => f.elim) h2.1), fun a => (h2.2.1 a).trans (h1.2.1 a), Nat.le_trans h1.2.2 h2.2.2⟩

set_option maxHeartbeats 400000 in
theorem length_zero (n : Nat) (hn : n ≤ 18446744073709551615) (w : World) :
    Calls Try.prog 7 #[.agg #[.int .u64 0, .int .u64 n]] w fun e w' => e = .returned (.float .f64 (Fl.len n)) ∧ Grown w w' := by
  have hF := floatOfInt_nat n
  have h0 : floatOfInt .f64 0 = 0 := by decide +kernel
  have ha := fun (t : TypeId) (w : World) => run_float_arith (P := Try.prog) w .add t .f64 0 (Fl.F n) (Fl.F n) (Fl.add_zero_left _ (Fl.F_ok n (by omega)))
  have hs : Hid (Ieee.double.sqrt (Fl.F n) = some (Fl.len n)) := Fl.sqrt_F n (by omega)
  go_enter Try.func7, Try.ntmps7
  go_wp2
  go_quiet ((first | (go_at_call 9; exact Calls.quiet_of_same (ldexp_zero _)) | (go_at_call 8; exact Calls.quiet_of_same (msqrt_any _ _ hs.out _))))
  go_wp2
  go_ret
  exact ⟨rfl, grown_drewN ((Grown.refl _).alloc _ _) _⟩

set_option maxHeartbeats 400000 in
theorem length_one (w : World) :
    Calls Try.prog 7 #[.agg #[.int .u64 1, .int .u64 0]] w fun e w' => e = .returned (.float .f64 (Fl.F 4294967296)) ∧ Grown w w' := by
  have h0 : floatOfInt .f64 0 = 0 := by decide +kernel
  have h1 : floatOfInt .f64 1 = 4607182418800017408 := by decide +kernel
  have ha := fun (t : TypeId) (w : World) => run_float_arith (P := Try.prog) w .add t .f64 4895412794951729152 0 4895412794951729152 (by decide +kernel)
  have hs : Hid (Ieee.double.sqrt 4895412794951729152 = some (Fl.F 4294967296)) := by unfold Hid; decide +kernel
  go_enter Try.func7, Try.ntmps7
  go_wp2
  go_quiet ((first | (go_at_call 9; exact Calls.quiet_of_same (ldexp_one _)) | (go_at_call 8; exact Calls.quiet_of_same (msqrt_any _ _ hs.out _))))
  go_wp2
  go_ret
  exact ⟨rfl, grown_drewN ((Grown.refl _).alloc _ _) _⟩

theorem build29 (a b : Int) (w : World) : (Instr.build 29 #[(0, .int .u64 a), (1, .int .u64 b)]).run Try.prog w = .ok (.agg #[.int .u64 a, .int .u64 b]) w := run_build w 29 _ _ (by kernel_rfl)

set_option maxHeartbeats 400000 in
theorem zzlength_zero (n : Nat) (hn : n ≤ 18446744073709551615) (w : World) :
    Calls Try.prog 6 #[.int .u64 0, .int .u64 n] w fun e w' => e = .returned (.float .f64 (Fl.len n)) ∧ Grown w w' := by
  have hb := build29
  go_enter Try.func6, Try.ntmps6
  go_wp2_with (go_at_call 7; refine (length_zero n hn _).mono ?_; rintro e w' ⟨rfl, hg⟩)
  go_ret
  exact ⟨rfl, hg⟩

set_option maxHeartbeats 400000 in
theorem zzlength_one (w : World) :
    Calls Try.prog 6 #[.int .u64 1, .int .u64 0] w fun e w' => e = .returned (.float .f64 (Fl.F 4294967296)) ∧ Grown w w' := by
  have hb := build29
  go_enter Try.func6, Try.ntmps6
  go_wp2_with (go_at_call 7; refine (length_one _).mono ?_; rintro e w' ⟨rfl, hg⟩)
  go_ret
  exact ⟨rfl, hg⟩

/-- What the two words of a squared distance of at most 2^64 stand for. -/
def Dist (hi lo : Int) (d : Nat) : Prop := (hi = 0 ∧ lo = (d : Int) ∧ d ≤ 18446744073709551615) ∨ (hi = 1 ∧ lo = 0 ∧ d = 18446744073709551616)

theorem isqrt_any (hi lo : Int) (d : Nat) (h : Dist hi lo d) (w : World) :
    Calls Try.prog 5 #[.int .u64 hi, .int .u64 lo] w fun e w' => (∃ s : Nat, s ≤ 4294967296 ∧ s * s ≤ d ∧ d < (s + 1) * (s + 1) ∧ e = .returned (.int .u64 s)) ∧ w' = w := by
  rcases h with ⟨rfl, rfl, h⟩ | ⟨rfl, rfl, rfl⟩
  · refine (isqrt_zero _ (by omega) (by omega) w).mono ?_
    rintro e w' ⟨⟨s, h1, h2, h3, rfl⟩, rfl⟩
    exact ⟨⟨s, by omega, by omega, by omega, rfl⟩, rfl⟩
  · refine (isqrt_one 0 w).mono ?_
    rintro e w' ⟨rfl, rfl⟩
    exact ⟨⟨4294967296, by omega, by omega, by omega, rfl⟩, rfl⟩

theorem zzlength_any (hi lo : Int) (d : Nat) (h : Dist hi lo d) (w : World) :
    Calls Try.prog 6 #[.int .u64 hi, .int .u64 lo] w fun e w' => e = .returned (.float .f64 (Fl.len d)) ∧ Grown w w' := by
  rcases h with ⟨rfl, rfl, h⟩ | ⟨rfl, rfl, rfl⟩
  · exact zzlength_zero d h w
  · refine (zzlength_one w).mono ?_
    rintro e w' ⟨rfl, hg⟩
    have := Fl.len_top
    exact ⟨by rw [show Fl.len 18446744073709551616 = Fl.F 4294967296 from this], hg⟩

/-- How the length compares to the whole root and to one more. -/
theorem geq_root (d s : Nat) (hd : d ≤ 18446744073709551616) (hs : s ≤ 4294967296) (h : s * s ≤ d) :
    FloatKind.f64.format.order (Fl.len d) (floatOfInt .f64 (s : Int)) = some .gt ∨ FloatKind.f64.format.order (Fl.len d) (floatOfInt .f64 (s : Int)) = some .eq := by
  rw [floatOfInt_nat]
  have := Fl.geq_ok (Fl.len d) (Fl.F s) (Fl.len_ok d (by omega)) (Fl.F_ok s (by omega)) (Fl.len_lo s d h (by omega) (by omega))
  rw [Bool.or_eq_true] at this
  rcases this with h | h
  · exact .inl (eq_of_beq h)
  · exact .inr (eq_of_beq h)

theorem leq_next (d s : Nat) (hd : d ≤ 18446744073709551616) (hs : s ≤ 4294967296) (h : d < (s + 1) * (s + 1)) :
    FloatKind.f64.format.order (Fl.len d) (floatOfInt .f64 ((s : Int) + 1)) = some .lt ∨ FloatKind.f64.format.order (Fl.len d) (floatOfInt .f64 ((s : Int) + 1)) = some .eq := by
  have e : ((s : Int) + 1) = ((s + 1 : Nat) : Int) := by omega
  rw [e, floatOfInt_nat]
  have hl : Fl.len d ≤ Fl.F (s + 1) := by
    by_cases c : s = 4294967296
    · have h1 := Fl.len_mono d (2 ^ 64) (by omega) (Nat.le_refl _)
      have h2 := Fl.F_mono (2 ^ 32) (s + 1) (by omega) (by omega)
      rw [Fl.len_top] at h1
      omega
    · exact Fl.len_hi s d (by omega) (by omega)
  have := Fl.leq_ok (Fl.len d) (Fl.F (s + 1)) (Fl.len_ok d (by omega)) (Fl.F_ok (s + 1) (by omega)) hl
  rw [Bool.or_eq_true] at this
  rcases this with h | h
  · exact .inl (eq_of_beq h)
  · exact .inr (eq_of_beq h)

theorem eql_root (s : Nat) (hs : s ≤ 4294967296) : FloatKind.f64.format.order (Fl.len (s * s)) (floatOfInt .f64 (s : Int)) = some .eq := by
  rw [floatOfInt_nat, Fl.len_square' s hs]
  exact eq_of_beq (Fl.eql_ok _ (Fl.F_ok s (by omega)))

theorem leq_len (a b : Nat) (h : a ≤ b) (hb : b ≤ 18446744073709551616) :
    FloatKind.f64.format.order (Fl.len a) (Fl.len b) = some .lt ∨ FloatKind.f64.format.order (Fl.len a) (Fl.len b) = some .eq := by
  have := Fl.leq_ok (Fl.len a) (Fl.len b) (Fl.len_ok a (by omega)) (Fl.len_ok b hb) (Fl.len_mono a b h hb)
  rw [Bool.or_eq_true] at this
  rcases this with h | h
  · exact .inl (eq_of_beq h)
  · exact .inr (eq_of_beq h)
end Go.Proofs.Qxb6614855a
