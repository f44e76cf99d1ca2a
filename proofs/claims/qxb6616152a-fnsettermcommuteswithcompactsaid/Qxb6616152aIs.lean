/- zzb1StorageIs: what it reads of a storage. -/
import Derived.Test.Qxb6616152aSto
namespace Go.Proofs.Qxb6616152a
open Go.ChangeShapes Go.WideShapes Go.ChangeAt Go.RowKit

theorem term_any (b : Nat) (w : World) (x : Int) (h : w.cell? ⟨b, 0, none⟩ = some (.int .u64 x)) :
    Calls Try.prog 12 #[.pointer (some ⟨b, 0, none⟩)] w fun e w' => e = .returned (.int .u64 x) ∧ w = w' := by
  go_enter Try.func12, Try.ntmps12
  go_wp2
  go_ret
  exact ⟨rfl, rfl⟩

theorem vote_any (b : Nat) (w : World) (x : Int) (h : w.cell? ⟨b, 1, none⟩ = some (.int .u64 x)) :
    Calls Try.prog 13 #[.pointer (some ⟨b, 0, none⟩)] w fun e w' => e = .returned (.int .u64 x) ∧ w = w' := by
  go_enter Try.func13, Try.ntmps13
  go_wp2
  go_ret
  exact ⟨rfl, rfl⟩

theorem log_any (b : Nat) (w : World) (la : Option Addr) (ll lc : Nat) (h : w.cell? ⟨b, 5, none⟩ = some (.slice la ll lc)) :
    Calls Try.prog 17 #[.pointer (some ⟨b, 0, none⟩)] w fun e w' => e = .returned (.slice la ll lc) ∧ w = w' := by
  go_enter Try.func17, Try.ntmps17
  go_wp2
  go_ret
  exact ⟨rfl, rfl⟩

set_option maxHeartbeats 400000 in
theorem last_any (b : Nat) (w : World) (i : Int) (la : Option Addr) (ll lc : Nat) (h : w.cell? ⟨b, 5, none⟩ = some (.slice la ll lc)) (h2 : w.cell? ⟨b, 2, none⟩ = some (.int .u64 i)) (hl : ll ≤ 1048576) :
    Calls Try.prog 16 #[.pointer (some ⟨b, 0, none⟩)] w fun e w' => e = .returned (.int .u64 (IntKind.u64.wrap (i + ll))) ∧ ∃ n, w' = w.drewN n := by
  go_enter Try.func16, Try.ntmps16
  go_wp2
  go_quiet (fail)
  go_wp2
  go_ret
  exact ⟨rfl, _, rfl⟩

set_option maxHeartbeats 400000 in
theorem snap_any (b : Nat) (w : World) (i t : Int) (da : Option Addr) (dl dc : Nat) (hlt : b < w.heap.size) (h2 : w.cell? ⟨b, 2, none⟩ = some (.int .u64 i)) (h3 : w.cell? ⟨b, 3, none⟩ = some (.int .u64 t)) (h4 : w.cell? ⟨b, 4, none⟩ = some (.slice da dl dc)) :
    Calls Try.prog 14 #[.pointer (some ⟨b, 0, none⟩)] w fun e w' => e = .returned (.agg #[.int .u64 i, .int .u64 t, .slice da dl dc]) ∧ Below w.heap.size w w' := by
  go_enter Try.func14, Try.ntmps14
  go_wp2
  exact bodyPost_ret (v := .agg #[.int .u64 i, .int .u64 t, .slice da dl dc]) (by simp [results, Try.results14, go_sem]) rfl ⟨rfl, (Below.refl _ _).alloc (Nat.le_refl _) _⟩

/-- The k-th entry's term and the k-th number of the other list. -/
theorem both {w : World} {la ra : Option Addr} {ll : Nat} {xs : List (Int × Int)} {terms : List Int} (hx : EntsAt w la ll xs) (hr : IntsAt .u64 w ra ll terms) (hm : xs.map Prod.snd = terms) {k : Nat} (hk : k < ll) :
    ∃ b off b' off' s, la = some ⟨b, off, none⟩ ∧ ra = some ⟨b', off', none⟩ ∧ w.cell? ⟨b, off + k * 3 + 1, none⟩ = some (.int .u64 s) ∧ w.cell? ⟨b', off' + k, none⟩ = some (.int .u64 s) := by
  obtain ⟨h1, h2, h4⟩ := hx
  obtain ⟨g1, g2, g4⟩ := hr
  rcases h4 with h4 | ⟨b, off, rfl, hc⟩
  · omega
  · rcases g4 with g4 | ⟨b', off', rfl, hc'⟩
    · omega
    · have hk' : k < xs.length := by omega
      refine ⟨b, off, b', off', terms.getD k 0, rfl, rfl, ?_, hc' k hk⟩
      have e := hc (3 * k + 1) (by omega)
      rw [(ents_at xs k hk').2.1] at e
      have e2 : off + k * 3 + 1 = off + (3 * k + 1) := by omega
      rw [e2, e]
      have e3 : terms.getD k 0 = xs[k].2 := by
        rw [← hm]
        simp [List.getD_eq_getElem?_getD, hk']
      rw [e3]

set_option maxRecDepth 100000 in
set_option maxHeartbeats 2000000 in
theorem storageIs_any (b : Nat) (t v idx nt : Int) (da : Option Addr) (dl dc : Nat) (la : Option Addr) (ll lc : Nat) (zs : List Int) (xs : List (Int × Int)) (a7 : Option Addr) (cap7 : Nat) (ra : Option Addr) (rc : Nat) (terms : List Int) (last : Int) (w : World)
    (hS : Sto w b t v idx nt (.slice da dl dc) (.slice la ll lc)) (hd : IntsAt .u8 w da dl zs) (h7 : IntsAt .u8 w a7 dl zs) (hx : EntsAt w la ll xs) (hr : IntsAt .u64 w ra ll terms) (hm : xs.map Prod.snd = terms) (hlast : IntKind.u64.wrap (idx + (ll : Int)) = last) :
    Calls Try.prog 10 #[.pointer (some ⟨b, 0, none⟩), .int .u64 t, .int .u64 v, .int .u64 idx, .int .u64 nt, .slice a7 dl cap7, .int .u64 last, .slice ra ll rc] w fun e w' => e = .returned (.bool true) ∧ Below w.heap.size w w' := by
  have hb := hS.lt
  have hll := hx.2.1
  have HS : Hid (Sto w b t v idx nt (.slice da dl dc) (.slice la ll lc)) := hS
  have HD : Hid (IntsAt .u8 w da dl zs) := hd
  have H7 : Hid (IntsAt .u8 w a7 dl zs) := h7
  have HX : Hid (EntsAt w la ll xs) := hx
  have HR : Hid (IntsAt .u64 w ra ll terms) := hr
  have HM : Hid (xs.map Prod.snd = terms) := hm
  have HL : Hid (IntKind.u64.wrap (idx + (ll : Int)) = last) := hlast
  obtain ⟨c0, c1, c2, c3, c4, c5, hf⟩ := hS.cells
  clear hS hd h7 hx hr hm hlast hf
  go_enter Try.func10, Try.ntmps10
  go_wp2_with (fail)
  refine (term_any b w t c0).mono ?_
  rintro e w' ⟨rfl, rfl⟩
  go_wp2_with (fail)
  refine (vote_any b w v c1).mono ?_
  rintro e w' ⟨rfl, rfl⟩
  go_wp2_with (fail)
  refine (snap_any b w idx nt da dl dc hb c2 c3 c4).mono ?_
  rintro e w1 ⟨rfl, hb1⟩
  have hsz1 := hb1.size
  have HB1 : Hid (Below w.heap.size w w1) := hb1
  clear c0 c1 c2 c3 c4 c5 hb1
  have HB2 : Hid (∀ ob, Below w.heap.size w (w1.alloc ob)) := fun ob => HB1.out.alloc hsz1 ob
  go_wp2_with (fail)
  refine (eq_any da a7 dl dc cap7 zs _ (HD.out.later (HB2.out _) (Nat.le_refl _)) (H7.out.later (HB2.out _) (Nat.le_refl _))).mono ?_
  rintro e w2 ⟨rfl, hb2⟩
  have HB3 : Hid (Below w.heap.size w w2) := (HB2.out _).trans (hb2.mono (by simp; omega))
  have hS2 := HS.out.later HB3.out hb
  obtain ⟨c0, c1, c2, c3, c4, c5, hf⟩ := hS2.cells
  have HX2 : Hid (EntsAt w2 la ll xs) := HX.out.later HB3.out (Nat.le_refl _)
  have HR2 : Hid (IntsAt .u64 w2 ra ll terms) := HR.out.later HB3.out (Nat.le_refl _)
  clear hb2 hS2 hf HB2 HB1 HD H7 HX HR c0 c1 c3 c4 HS hsz1 hb
  have hl := HL.out
  go_wp2_with (fail)
  refine (last_any b w2 idx la ll lc c5 c2 hll).mono ?_
  rintro e w3 ⟨rfl, n, rfl⟩
  go_wp2_with (fail)
  refine (log_any b _ la ll lc (by simpa using c5)).mono ?_
  rintro e w' ⟨rfl, rfl⟩
  clear c2 c5 hl
  go_wp2
  go_loopw [19] (fun i wr => ∃ k n : Nat, k ≤ ll ∧ i = .int .i64 k ∧ wr = w2.drewN n) (fun i _ => ll - (intOf i).toNat)
  case atStart => exact ⟨0, n, Nat.zero_le _, rfl, rfl⟩
  case round =>
    obtain ⟨k, m, hk, rfl, rfl⟩ := hrel
    by_cases hlt : k < ll
    · obtain ⟨x, y, z, u, s, rfl, rfl, e1, e2⟩ := both HX2.out HR2.out HM.out hlt
      clear HX2 HR2 HM HL HB3
      go_wp2
      go_quiet (fail)
      go_wp2
      go_roundw
      case rel => exact ⟨k + 1, _, by omega, by go_num, rfl⟩
      case measure => simp [intOf]; omega
    · go_wp2
      go_ret
      exact ⟨rfl, HB3.out.trans ⟨rfl, rfl, rfl, Nat.le_refl _, fun _ _ => rfl⟩⟩
end Go.Proofs.Qxb6616152a
