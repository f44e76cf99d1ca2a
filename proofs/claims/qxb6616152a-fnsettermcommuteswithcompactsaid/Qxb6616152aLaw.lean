/- The law's own walk. -/
import Derived.Test.Qxb6616152aCompact
import Derived.Test.Qxb6616152aIs
namespace Go.Proofs.Qxb6616152a
open Go.ChangeShapes Go.WideShapes Go.ChangeAt Go.RowKit
set_option linter.unusedVariables false

/-- It returned a bool. -/
def SomeBool (e : Ending) : Prop := ∃ b, e = .returned (.bool b)

set_option maxHeartbeats 1000000 in
theorem bytes_any (a0 a1 a2 a3 : Int) (a4 : Option Addr) (len4 cap4 : Nat) (a5 a6 : Int) (a7 : Option Addr) (len7 cap7 : Nat) (a8 a9 : Int) (w : World) (h4 : len4 ≤ maxLen) (h7 : len7 ≤ maxLen) :
    Calls Try.prog 4 #[.int .u64 a0, .int .u64 a1, .int .u64 a2, .int .u64 a3, .slice a4 len4 cap4, .int .u64 a5, .int .u64 a6, .slice a7 len7 cap7, .int .u64 a8, .int .u64 a9] w fun e w' => SomeBool e ∧ w = w' := by
  unfold maxLen at h4 h7
  go_enter Try.func4, Try.ntmps4
  go_wp2
  all_goals
    go_ret
    exact ⟨⟨_, rfl⟩, rfl⟩

theorem IntsAt.drop {k : IntKind} {w : World} {a : Option Addr} {len : Nat} {zs : List Int} (h : IntsAt k w a len zs) (c : Nat) (hc : c ≤ len) : IntsAt k w (a.map fun x => x.add c) (len - c) (zs.drop c) := by
  obtain ⟨h1, h2, h4⟩ := h
  refine ⟨by simp; omega, by omega, ?_⟩
  rcases h4 with h4 | ⟨b, off, rfl, hcell⟩
  · exact .inl (by omega)
  · refine .inr ⟨b, off + c, ?_, fun j hj => ?_⟩
    · simp [Go.WideShapes.add_plain]
    · have := hcell (c + j) (by omega)
      have e : off + c + j = off + (c + j) := by omega
      rw [e, this]
      simp [List.getD_eq_getElem?_getD]

/-- Bytes lie in no storage's block. -/
theorem IntsAt.sto {w w' : World} {a : Option Addr} {len : Nat} {zs : List Int} (h : IntsAt .u8 w a len zs) {b : Nat} {t v i s : Int} {x : Option Addr} {y z : Nat} {x' : Option Addr} {y' z' : Nat} (hS : Sto w b t v i s (.slice x y z) (.slice x' y' z')) (hg : w.grownBy w' (some b)) : IntsAt .u8 w' a len zs := by
  obtain ⟨h1, h2, h4⟩ := h
  refine ⟨h1, h2, ?_⟩
  rcases h4 with h4 | ⟨b', off, rfl, hcell⟩
  · exact .inl h4
  · refine .inr ⟨b', off, rfl, fun j hj => ?_⟩
    have hc := hcell j hj
    have hne : some b' ≠ some b := by
      intro e
      cases e
      unfold Sto at hS
      unfold World.cell? at hc
      simp only [hS] at hc
      have : off + j = 0 ∨ off + j = 1 ∨ off + j = 2 ∨ off + j = 3 ∨ off + j = 4 ∨ off + j = 5 ∨ 6 ≤ off + j := by omega
      rcases this with e | e | e | e | e | e | e
      all_goals first | (rw [e] at hc; simp at hc) | (rw [Array.getElem?_eq_none (by simpa using e)] at hc; simp at hc)
    rw [World.cell?_of_block (w := w) (a := ⟨b', off + j, none⟩) (hg.block b' (cell_lt (a := ⟨b', off + j, none⟩) hc) hne)]
    exact hc

theorem EntsAt.grown {w w' : World} {a : Option Addr} {len : Nat} {xs : List (Int × Int)} (h : EntsAt w a len xs) {b : Nat} (hne : ∀ y, a = some y → y.block ≠ b) (hg : w.grownBy w' (some b)) : EntsAt w' a len xs := by
  obtain ⟨h1, h2, h4⟩ := h
  refine ⟨h1, h2, ?_⟩
  rcases h4 with h4 | ⟨b', off, rfl, hc⟩
  · exact .inl h4
  · refine .inr ⟨b', off, rfl, fun j hj => ?_⟩
    have hcj := hc j hj
    have hl : j < (ents xs).length := by rw [ents_length]; omega
    rw [List.getElem?_eq_getElem hl] at hcj ⊢
    have hb : b' ≠ b := hne _ rfl
    rw [World.cell?_of_block (w := w) (a := ⟨b', off + j, none⟩) (hg.block b' (cell_lt (a := ⟨b', off + j, none⟩) hcj) (by simpa using hb))]
    exact hcj

/-- A storage in its last state. -/
def Done (w : World) (b : Nat) (t v idx nt : Int) (dl : Nat) (zs : List Int) (n : Nat) (terms : List Int) : Prop :=
  ∃ da dc la lc ys, Sto w b t v idx nt (.slice da dl dc) (.slice la n lc) ∧ IntsAt .u8 w da dl zs ∧ EntsAt w la n ys ∧ ys.map Prod.snd = terms

theorem Done.later {w w' : World} {b : Nat} {t v idx nt : Int} {dl : Nat} {zs : List Int} {n : Nat} {terms : List Int} (h : Done w b t v idx nt dl zs n terms) (hb : Below w.heap.size w w') : Done w' b t v idx nt dl zs n terms := by
  obtain ⟨da, dc, la, lc, ys, h1, h2, h3, h4⟩ := h
  exact ⟨da, dc, la, lc, ys, h1.later hb h1.lt, h2.later hb (Nat.le_refl _), h3.later hb (Nat.le_refl _), h4⟩

theorem done_is {w : World} {b : Nat} {t v idx nt : Int} {dl : Nat} {zs : List Int} {n : Nat} {terms : List Int} (h : Done w b t v idx nt dl zs n terms) (a7 : Option Addr) (cap7 : Nat) (h7 : IntsAt .u8 w a7 dl zs) (ra : Option Addr) (rc : Nat) (hr : IntsAt .u64 w ra n terms) (last : Int) (hlast : IntKind.u64.wrap (idx + (n : Int)) = last) :
    Calls Try.prog 10 #[.pointer (some ⟨b, 0, none⟩), .int .u64 t, .int .u64 v, .int .u64 idx, .int .u64 nt, .slice a7 dl cap7, .int .u64 last, .slice ra n rc] w fun e w' => e = .returned (.bool true) ∧ Below w.heap.size w w' := by
  obtain ⟨da, dc, la, lc, ys, h1, h2, h3, h4⟩ := h
  exact storageIs_any b t v idx nt da dl dc la n lc zs ys a7 cap7 ra rc terms last w h1 h2 h7 h3 hr h4 hlast

theorem wrap_back (i : Int) (c : Nat) (hc : c ≤ 65536) : IntKind.u64.wrap (IntKind.u64.wrap (i + (c : Int)) - i) = (c : Int) := by
  rw [IntKind.wrap_u64, IntKind.wrap_u64]
  omega

theorem wrap_last (i : Int) (c n : Nat) (hc : c ≤ n) : IntKind.u64.wrap (IntKind.u64.wrap (i + (c : Int)) + ((n - c : Nat) : Int)) = IntKind.u64.wrap (i + (n : Int)) := by
  rw [IntKind.wrap_u64, IntKind.wrap_u64, IntKind.wrap_u64]
  omega

set_option maxRecDepth 100000 in
set_option maxHeartbeats 4000000 in
theorem law_main (a0 a1 a2 a3 : Int) (a4 : Option Addr) (len4 cap4 : Nat) (cut : Nat) (a6 : Int) (a7 : Option Addr) (len7 cap7 : Nat) (a8 a9 : Int) (zs : List Int) (ts : List Int) (w : World)
    (h4 : IntsAt .u64 w a4 len4 ts) (hc4 : len4 ≤ cap4) (h7 : IntsAt .u8 w a7 len7 zs) (hl4 : len4 ≤ 65536) (hl7 : len7 ≤ 524288) (hcut : cut ≤ len4) :
    Calls Try.prog 3 #[.int .u64 a0, .int .u64 a1, .int .u64 a2, .int .u64 a3, .slice a4 len4 cap4, .int .u64 cut, .int .u64 a6, .slice a7 len7 cap7, .int .u64 a8, .int .u64 a9] w fun e w' => e = .returned (.bool true) ∧ Below w.heap.size w w' := by
  have H4 : Hid (IntsAt .u64 w a4 len4 ts) := h4
  have H7 : Hid (IntsAt .u8 w a7 len7 zs) := h7
  have HBy : Hid (∀ w' : World, Calls Try.prog 4 #[.int .u64 a0, .int .u64 a1, .int .u64 a2, .int .u64 a3, .slice a4 len4 cap4, .int .u64 cut, .int .u64 a6, .slice a7 len7 cap7, .int .u64 a8, .int .u64 a9] w' fun e w'' => SomeBool e ∧ w' = w'') := fun w' => bytes_any a0 a1 a2 a3 a4 len4 cap4 cut a6 a7 len7 cap7 a8 a9 w' (by unfold maxLen; omega) (by unfold maxLen; omega)
  clear h4 h7
  have hb30 := build30
  have hb30' := build30'
  go_enter Try.func3, Try.ntmps3
  go_wp2_with (fail)
  refine (HBy.out _).mono ?_
  rintro e w' ⟨⟨b, rfl⟩, rfl⟩
  cases b with
  | false =>
    go_wp2
    go_ret
    exact ⟨rfl, Below.refl _ _⟩
  | true =>
    go_upto_region 9 with (fail)
    go_cut [21, 22, 23] (fun i l r wr => ∃ (idx last : Int) (ra : Option Addr) (rc : Nat), Hid (IntKind.u64.wrap (a2 + (cut : Int)) = idx) ∧ Hid (IntKind.u64.wrap (a2 + (len4 : Int)) = last) ∧ Hid (IntsAt .u64 w ra (len4 - cut) (ts.drop cut)) ∧ i = .int .u64 idx ∧ l = .int .u64 last ∧ r = .slice ra (len4 - cut) rc ∧ w = wr)
    case first =>
      by_cases hcc : cap4 = cut
      · go_wp2
        go_meet
        case rel => exact ⟨_, _, _, _, rfl, rfl, ⟨by simp [H4.out.1], by omega, .inl (by omega)⟩, rfl, rfl, rfl, rfl⟩
      · go_wp2
        go_meet
        case rel => exact ⟨_, _, _, _, rfl, rfl, H4.out.drop cut hcut, rfl, rfl, rfl, rfl⟩
    case rest =>
      obtain ⟨idx, last, ra, rc, HI, HL, HR, rfl, rfl, rfl, rfl⟩ := hcut
      have HIX : Hid (IntKind.u64.wrap (idx - a2) = (cut : Int)) := by
        have := wrap_back a2 cut (by omega)
        rw [HI.out] at this
        exact this
      have HLA : Hid (IntKind.u64.wrap (idx + ((len4 - cut : Nat) : Int)) = last) := by
        have := wrap_last a2 cut len4 ‹_›
        rw [HI.out, HL.out] at this
        exact this
      clear HI HL HBy
      -- the first storage
      go_wp2_with (fail)
      refine (entries_any a2 a4 len4 cap4 ts _ H4.out).mono ?_
      rintro e w1 ⟨la, xs, rfl, hx1, hm1, hb1⟩
      have B1 : Hid (Below w.heap.size w w1) := hb1
      have X1 : Hid (EntsAt w1 la len4 xs) := hx1
      have M1 : Hid (xs.map Prod.snd = ts) := hm1
      clear hx1 hm1 hb1
      go_wp2_with (fail)
      refine (new_any _ _ _ _ la len4 len4 _).mono ?_
      rintro e w2 ⟨rfl, hs2, hb2, hz2⟩
      obtain ⟨p, hp⟩ : ∃ p, w1.heap.size + 1 = p := ⟨_, rfl⟩
      rw [hp] at hs2 ⊢
      have hpw : w.heap.size ≤ p := by
        have := B1.out.size
        omega
      have S2 : Hid (Sto w2 p a0 a1 a2 a3 (.slice none 0 0) (.slice la len4 len4)) := hs2
      have B2 : Hid (Below w1.heap.size w1 w2) := hb2
      clear hs2 hb2
      go_wp2_with (fail)
      refine (setTerm_any p a0 a1 a2 a3 a8 a9 _ _ w2 S2.out).mono ?_
      rintro e w3 ⟨rfl, hs3, hg3⟩
      have S3 : Hid (Sto w3 p a8 a9 a2 a3 (.slice none 0 0) (.slice la len4 len4)) := hs3
      have B3 : Hid (Below w1.heap.size w1 w3) := B2.out.grown hg3 (by omega) (fun k hk => by cases hk; omega)
      clear hs3 hg3 S2 B2
      have B3w : Hid (Below w.heap.size w w3) := B1.out.trans (B3.out.mono B1.out.size)
      go_wp2_with (fail)
      refine (clone_any a7 len7 cap7 zs _ (H7.out.later B3w.out (Nat.le_refl _))).mono ?_
      rintro e w4 ⟨da, rfl, hd4, hb4⟩
      have S4 : Hid (Sto w4 p a8 a9 a2 a3 (.slice none 0 0) (.slice la len4 len4)) := S3.out.later hb4 S3.out.lt
      have X4 : Hid (EntsAt w4 la len4 xs) := (X1.out.later B3.out (Nat.le_refl _)).later hb4 (Nat.le_refl _)
      have D4 : Hid (IntsAt .u8 w4 da len7 zs) := hd4
      have B4w : Hid (Below w.heap.size w w4) := B3w.out.trans (hb4.mono B3w.out.size)
      clear hd4 hb4 S3 B3 B3w X1 B1
      go_wp2_with (fail)
      refine (compact_walk p a8 a9 a2 a3 _ la len4 len4 xs idx a6 da len7 len7 cut w4 S4.out X4.out ‹_› (Nat.le_refl _) HIX.out).mono ?_
      rintro e w5 ⟨rfl, la', lc', hs5, hx5, hg5, hn5⟩
      have B5w : Hid (Below w.heap.size w w5) := B4w.out.grown hg5 B4w.out.size (fun k hk => by cases hk; omega)
      have D5 : Hid (Done w5 p a8 a9 idx a6 len7 zs (len4 - cut) (ts.drop cut)) := ⟨da, len7, la', lc', xs.drop cut, hs5, D4.out.sto S4.out hg5, hx5, by rw [List.map_drop, M1.out]⟩
      clear hs5 hx5 hg5 hn5 S4 X4 D4 B4w M1
      -- the second storage
      go_wp2_with (fail)
      refine (entries_any a2 a4 len4 cap4 ts _ (H4.out.later B5w.out (Nat.le_refl _))).mono ?_
      rintro e w6 ⟨lb, ys, rfl, hx6, hm6, hb6⟩
      have B6 : Hid (Below w5.heap.size w5 w6) := hb6
      have X6 : Hid (EntsAt w6 lb len4 ys) := hx6
      have M6 : Hid (ys.map Prod.snd = ts) := hm6
      clear hx6 hm6 hb6
      go_wp2_with (fail)
      refine (new_any _ _ _ _ lb len4 len4 _).mono ?_
      rintro e w7 ⟨rfl, hs7, hb7, hz7⟩
      obtain ⟨q, hq⟩ : ∃ q, w6.heap.size + 1 = q := ⟨_, rfl⟩
      rw [hq] at hs7 ⊢
      have hqw : w5.heap.size ≤ q := by
        have := B6.out.size
        omega
      have S7 : Hid (Sto w7 q a0 a1 a2 a3 (.slice none 0 0) (.slice lb len4 len4)) := hs7
      have B7 : Hid (Below w5.heap.size w5 w7) := B6.out.trans (hb7.mono B6.out.size)
      have X7 : Hid (EntsAt w7 lb len4 ys) := X6.out.later hb7 (Nat.le_refl _)
      clear hs7 hb7 X6 B6
      go_wp2_with (fail)
      refine (clone_any a7 len7 cap7 zs _ ((H7.out.later B5w.out (Nat.le_refl _)).later B7.out (Nat.le_refl _))).mono ?_
      rintro e w8 ⟨db, rfl, hd8, hb8⟩
      have S8 : Hid (Sto w8 q a0 a1 a2 a3 (.slice none 0 0) (.slice lb len4 len4)) := S7.out.later hb8 S7.out.lt
      have X8 : Hid (EntsAt w8 lb len4 ys) := X7.out.later hb8 (Nat.le_refl _)
      have D8 : Hid (IntsAt .u8 w8 db len7 zs) := hd8
      have B8 : Hid (Below w5.heap.size w5 w8) := B7.out.trans (hb8.mono B7.out.size)
      clear hd8 hb8 S7 X7 B7
      go_wp2_with (fail)
      refine (compact_walk q a0 a1 a2 a3 _ lb len4 len4 ys idx a6 db len7 len7 cut w8 S8.out X8.out ‹_› (Nat.le_refl _) HIX.out).mono ?_
      rintro e w9 ⟨rfl, lb', lc9, hs9, hx9, hg9, hn9⟩
      have S9 : Hid (Sto w9 q a0 a1 idx a6 (.slice db len7 len7) (.slice lb' (len4 - cut) lc9)) := hs9
      have B9 : Hid (Below w5.heap.size w5 w9) := B8.out.grown hg9 B8.out.size (fun k hk => by cases hk; omega)
      have D9 : Hid (IntsAt .u8 w9 db len7 zs) := D8.out.sto S8.out hg9
      have X9 : Hid (EntsAt w9 lb' (len4 - cut) (ys.drop cut)) := hx9
      have N9 : Hid (∀ y, lb' = some y → y.block ≠ q) := hn9
      clear hs9 hg9 hx9 hn9 S8 B8 D8 X8
      go_wp2_with (fail)
      refine (setTerm_any q a0 a1 idx a6 a8 a9 _ _ w9 S9.out).mono ?_
      rintro e w10 ⟨rfl, hs10, hg10⟩
      have B10 : Hid (Below w5.heap.size w5 w10) := B9.out.grown hg10 B9.out.size (fun k hk => by cases hk; omega)
      have D10 : Hid (Done w10 q a8 a9 idx a6 len7 zs (len4 - cut) (ts.drop cut)) := ⟨db, len7, lb', lc9, ys.drop cut, hs10, D9.out.sto S9.out hg10, X9.out.grown N9.out hg10, by rw [List.map_drop, M6.out]⟩
      have B10w : Hid (Below w.heap.size w w10) := B5w.out.trans (B10.out.mono B5w.out.size)
      have D10a : Hid (Done w10 p a8 a9 idx a6 len7 zs (len4 - cut) (ts.drop cut)) := D5.out.later B10.out
      clear hs10 hg10 S9 B9 D9 X9 N9 M6 D5 B10 B5w
      -- both are as they should be
      go_wp2_with (fail)
      refine (done_is D10a.out a7 cap7 (H7.out.later B10w.out (Nat.le_refl _)) ra rc (HR.out.later B10w.out (Nat.le_refl _)) last HLA.out).mono ?_
      rintro e w11 ⟨rfl, hb11⟩
      have B11w : Hid (Below w.heap.size w w11) := B10w.out.trans (hb11.mono B10w.out.size)
      have D11 : Hid (Done w11 q a8 a9 idx a6 len7 zs (len4 - cut) (ts.drop cut)) := D10.out.later hb11
      clear hb11 D10 D10a B10w
      go_wp2_with (fail)
      refine (done_is D11.out a7 cap7 (H7.out.later B11w.out (Nat.le_refl _)) ra rc (HR.out.later B11w.out (Nat.le_refl _)) last HLA.out).mono ?_
      rintro e w12 ⟨rfl, hb12⟩
      have B12w : Hid (Below w.heap.size w w12) := B11w.out.trans (hb12.mono B11w.out.size)
      clear hb12 D11 B11w
      go_wp2
      go_ret
      exact ⟨rfl, B12w.out⟩
end Go.Proofs.Qxb6616152a
