/- The header law: its own text as far as the making of the map. -/
import Derived.Test.Qxb6614936aStrs
import Derived.Test.Qxb6614936aRec
import Derived.Test.Qxb6614936aBytes
import Derived.Test.Qxb6614936aHdrPlain
import Derived.Deep.DeepCutAuto
import Derived.Deep.CutBlock
import Derived.Deep.RegionWith
namespace Go.Proofs.Qxb6614936a
open Go.ChangeShapes Go.WideShapes Go.ChangeAt Go.RowKit
set_option linter.unusedVariables false

theorem make_sized (t : TypeId) (ht : ∃ k e, Try.prog.underlying t = some (.map k e)) (n : Nat) (w : World) : (Instr.makeMap t (some (.int .i64 n))).run Try.prog w = .ok (.map (some w.heap.size)) (w.alloc (.map #[] 0)) := by
  obtain ⟨k, e, ht⟩ := ht
  simp only [Instr.makeMap, Sem.run_bind, run_underlying ht, Result.andThen_ok]
  rfl

set_option maxRecDepth 100000 in
set_option maxHeartbeats 4000000 in
theorem hdr_walk (a0 : Option Addr) (len0 cap0 : Nat) (keys : List ByteArray) (a1 : Option Addr) (len1 cap1 : Nat) (rows : List (Value × List ByteArray)) (st : Int) (k : ByteArray) (a4 : Option Addr) (len4 cap4 : Nat) (vs : List ByteArray) (w : World)
    (h0 : StrsAt w a0 len0 keys) (h1 : RowsAt w a1 len1 rows) (hk : k.size ≤ maxLen) (h4 : StrsAt w a4 len4 vs) :
    Calls Try.prog 3 #[.slice a0 len0 cap0, .slice a1 len1 cap1, .int .i64 st, .string k, .slice a4 len4 cap4] w fun e w' => e = .returned (.bool true) ∧ Below w.heap.size w w' := by
  have HB : Hid (∀ w', w = w' → Calls Try.prog 7 #[.slice a0 len0 cap0, .slice a1 len1 cap1, .int .i64 st, .string k, .slice a4 len4 cap4] w' fun e w'' => SomeBool e rows len1 ∧ w' = w'') := fun w' e => by
    subst e
    exact bytes7 a0 len0 cap0 keys a1 len1 cap1 rows st k a4 len4 cap4 vs w h0 h1 hk h4
  have l0 := h0.2.1
  have l1 := h1.2.1
  have l4 := h4.2.1
  have HK : Hid (k.size ≤ maxLen) := hk
  unfold maxLen at l0 l1 l4 hk
  have H0 : Hid (StrsAt w a0 len0 keys) := h0
  have H1 : Hid (RowsAt w a1 len1 rows) := h1
  have H4 : Hid (StrsAt w a4 len4 vs) := h4
  clear h0 h1 h4
  by_cases c0 : 4096 < len0
  · go_enter Try.func3, Try.ntmps3
    go_wp2_with (fail)
    refine (HB.out _ rfl).mono ?_
    rintro e w' ⟨⟨b, rfl, hb⟩, rfl⟩
    clear hb; cases b <;> (go_wp2; go_ret; exact ⟨rfl, Below.refl _ _⟩)
  · by_cases c1 : 4096 < len1
    · go_enter Try.func3, Try.ntmps3
      go_wp2_with (fail)
      refine (HB.out _ rfl).mono ?_
      rintro e w' ⟨⟨b, rfl, hb⟩, rfl⟩
      clear hb; cases b <;> (go_wp2; go_ret; exact ⟨rfl, Below.refl _ _⟩)
    · by_cases c4 : 4096 < len4
      · go_enter Try.func3, Try.ntmps3
        go_wp2_with (fail)
        refine (HB.out _ rfl).mono ?_
        rintro e w' ⟨⟨b, rfl, hb⟩, rfl⟩
        clear hb; cases b <;> (go_wp2; go_ret; exact ⟨rfl, Below.refl _ _⟩)
      · go_enter Try.func3, Try.ntmps3
        go_wp2_with (fail)
        refine (HB.out _ rfl).mono ?_
        rintro e w' ⟨⟨b, rfl, hb⟩, rfl⟩
        cases b with
        | false => clear hb; go_wp2; go_ret; exact ⟨rfl, Below.refl _ _⟩
        | true =>
          have HS : Hid (Short rows len1) := hb rfl
          clear HB hb
          go_upto_block 0 with (fail)
          go_cut [11, 12] (fun z i wr => (∃ x : Int, z = .int .i64 x) ∧ w = wr)
          case first =>
            go_wp2
            go_loop [11, 12] (fun z i => ∃ (x : Int) (n : Nat), n ≤ len0 ∧ i = .int .i64 n ∧ z = .int .i64 x) (fun _ i => len0 - (intOf i).toNat)
            case atStart => exact ⟨_, 0, Nat.zero_le _, rfl, rfl⟩
            case round =>
              obtain ⟨x, n, hn, rfl, rfl⟩ := hrel
              by_cases hlt : n < len0
              · by_cases hx : x ≤ 1048576
                · obtain ⟨b, off, rfl, hc, hs⟩ := H0.out.str hlt
                  generalize keys.getD n ByteArray.empty = s at *
                  unfold maxLen at hs
                  go_wp2
                  go_round
                  case rel => exact ⟨_, n + 1, by omega, by go_num, rfl⟩
                  case measure => simp [intOf]; omega
                · go_wp2
                  go_meet
                  case rel => exact ⟨⟨_, rfl⟩, rfl⟩
              · go_wp2
                go_meet
                case rel => exact ⟨⟨_, rfl⟩, rfl⟩
          case rest =>
            obtain ⟨⟨x1, rfl⟩, rfl⟩ := hcut
            go_upto_block 2 with (fail)
            go_cut [11, 13, 14] (fun z i j wr => (∃ x : Int, z = .int .i64 x) ∧ w = wr)
            case first =>
              go_wp2
              go_loop [11, 13, 14] (fun z i _j => ∃ (x : Int) (n : Nat), n ≤ len1 ∧ i = .int .i64 n ∧ z = .int .i64 x) (fun _ i _ => len1 - (intOf i).toNat)
              case atStart => exact ⟨_, 0, Nat.zero_le _, rfl, rfl⟩
              case round =>
                obtain ⟨y, m, hm, rfl, rfl⟩ := hrel
                by_cases hlt1 : m < len1
                · by_cases hx : y ≤ 1048576
                  · obtain ⟨b, off, ai, li, ci, rfl, hc, hrow⟩ := H1.out.row hlt1
                    have hrl := hrow.2.1
                    unfold maxLen at hrl
                    have HR : Hid (StrsAt w ai li (rows.getD m (.bool false, [])).2) := hrow
                    clear hrow
                    go_wp2
                    go_loop [11, 14] (fun z i => ∃ (x : Int) (n : Nat), n ≤ li ∧ i = .int .i64 n ∧ z = .int .i64 x) (fun _ i => li - (intOf i).toNat)
                    case atStart => exact ⟨_, 0, Nat.zero_le _, rfl, rfl⟩
                    case round =>
                      obtain ⟨x2, p, hp, rfl, rfl⟩ := hrel
                      by_cases hlt2 : p < li
                      · by_cases hx2 : x2 ≤ 1048576
                        · obtain ⟨b2, off2, rfl, hc2, hs2⟩ := HR.out.str hlt2
                          generalize ((rows.getD m (.bool false, [])).2).getD p ByteArray.empty = s at *
                          unfold maxLen at hs2
                          go_wp2
                          go_round
                          case rel => exact ⟨_, p + 1, by omega, by go_num, rfl⟩
                          case measure => simp [intOf]; omega
                        · go_wp2
                          go_round
                          case rel => exact ⟨_, m + 1, by omega, by go_num, rfl⟩
                          case measure => simp [intOf]; omega
                      · go_wp2
                        go_round
                        case rel => exact ⟨_, m + 1, by omega, by go_num, rfl⟩
                        case measure => simp [intOf]; omega
                  · go_wp2
                    go_meet
                    case rel => exact ⟨⟨_, rfl⟩, rfl⟩
                · go_wp2
                  go_meet
                  case rel => exact ⟨⟨_, rfl⟩, rfl⟩
            case rest =>
              obtain ⟨⟨x2, rfl⟩, rfl⟩ := hcut
              go_upto_block 6 with (fail)
              go_cut [11, 15] (fun z i wr => (∃ x : Int, z = .int .i64 x) ∧ w = wr)
              case first =>
                go_wp2
                go_loop [11, 15] (fun z i => ∃ (x : Int) (n : Nat), n ≤ len4 ∧ i = .int .i64 n ∧ z = .int .i64 x) (fun _ i => len4 - (intOf i).toNat)
                case atStart => exact ⟨_, 0, Nat.zero_le _, rfl, rfl⟩
                case round =>
                  obtain ⟨x, n, hn, rfl, rfl⟩ := hrel
                  by_cases hlt : n < len4
                  · by_cases hx : x ≤ 1048576
                    · obtain ⟨b, off, rfl, hc, hs⟩ := H4.out.str hlt
                      generalize vs.getD n ByteArray.empty = s at *
                      unfold maxLen at hs
                      go_wp2
                      go_round
                      case rel => exact ⟨_, n + 1, by omega, by go_num, rfl⟩
                      case measure => simp [intOf]; omega
                    · go_wp2
                      go_meet
                      case rel => exact ⟨⟨_, rfl⟩, rfl⟩
                  · go_wp2
                    go_meet
                    case rel => exact ⟨⟨_, rfl⟩, rfl⟩
              case rest =>
                obtain ⟨⟨x3, rfl⟩, rfl⟩ := hcut
                by_cases hx3 : 1048576 < x3
                · go_wp2
                  go_ret
                  exact ⟨rfl, Below.refl _ _⟩
                · by_cases hle : len1 = len0
                  · subst hle
                    have hmk := fun (t : TypeId) (ht : ∃ k e, Try.prog.underlying t = some (.map k e)) (n : Nat) (w : World) => make_sized t ht n w
                    have hm25 := hmk 25 ⟨9, 22, Try.underlying25⟩
                    clear hmk
                    go_upto_block 8 with (fail)
                    go_cut [17, 46, 47, 51] (fun i _p _q _r wr => ∃ D, Hid (Built w wr keys rows len1 D))
                    case first =>
                      go_wp2
                      go_loopw [17] (fun i wr => ∃ (n : Nat) (D : DataW Value), n ≤ len1 ∧ Hid (Built w wr keys rows n D) ∧ i = .int .i64 n) (fun i _ => len1 - (intOf i).toNat)
                      case atStart => exact ⟨0, _, Nat.zero_le _, built_zero w keys rows, rfl⟩
                      case round =>
                        obtain ⟨n, D, hn, HD, rfl⟩ := hrel
                        by_cases hlt : n < len1
                        · have hbel := HD.out.2.1
                          obtain ⟨b, off, rfl, hc, hs⟩ := (H0.out.later hbel (Nat.le_refl _)).str hlt
                          obtain ⟨b1, off1, ai, li, ci, rfl, hc1, hrow⟩ := (H1.out.later hbel (Nat.le_refl _)).row hlt
                          have HR : Hid (StrsAt wr.drew ai li (rows.getD n (.bool false, [])).2) := hrow
                          have hli : li ≤ 1048576 := by
                            have := HS.out n hlt
                            rw [hrow.1] at this
                            exact this
                          have HST : Hid ((keys.getD n ByteArray.empty).size ≤ maxLen) := hs
                          obtain ⟨s, hs'⟩ : ∃ s, s = keys.getD n ByteArray.empty := ⟨_, rfl⟩
                          rw [← hs'] at hc
                          have HE : Hid (s = keys.getD n ByteArray.empty) := hs'
                          clear hs' hs hrow hbel
                          go_wp2
                          have hbl := cell_lt hc
                          go_region_with (go_at_call 8; refine (clone_any ai li ci _ _ hli HR.out).mono ?_; rintro e w2 ⟨a', rfl, hs2, hb2⟩; have hc2 : w2.cell? ⟨b, off + n, none⟩ = some (.string s) := (hb2.cell (p := ⟨b, off + n, none⟩) hbl).trans hc; obtain ⟨w3, hrun, hown3, hg3⟩ := store_any 25 22 Try.underlying25 (own_below HD.out.1 (wr := wr.drew) hb2 HD.out.2.2.1) (by omega) s (by rw [HE.out]; exact HST.out) (.slice a' li li))
                          all_goals
                            have hb2' : Below wr.heap.size wr w2 := ⟨hb2.os, hb2.tape, hb2.output, hb2.size, hb2.block⟩
                            have hown4 : w3.ownsMap Try.prog 9 raw w.heap.size (n + 1) (D.put (kl (keys.getD n ByteArray.empty)) (.held (.slice a' li li))) := by
                              rw [← HE.out]
                              exact hown3
                            have HN : Hid (Built w w3 keys rows (n + 1) (D.put (kl (keys.getD n ByteArray.empty)) (.held (.slice a' li li)))) := built_step HD.out hb2' hs2 hown4 hg3
                            clear hb2' hown4 hown3 hs2 hg3 hrun hc2 hb2 hc hc1
                            go_wp2
                            go_roundw
                            case rel => exact ⟨n + 1, _, by omega, HN, by go_num⟩
                            case measure => simp [intOf]; omega
                        · have HN : Hid (Built w wr keys rows len1 D) := by
                            have e : n = len1 := by omega
                            rw [← e]
                            exact HD
                          go_wp2
                          go_meet
                          case rel => exact ⟨D, HN⟩
                    case rest =>
                      obtain ⟨D, HD⟩ := hcut
                      have hszle := HD.out.1.size_le
                      have hlen25 : ∀ ty, (Builtin.len_ #[25] ty #[.map (some w.heap.size)]).run Try.prog wc = .ok (.int .i64 (Maps.size D)) wc := fun ty => HD.out.1.len Try.underlying25 ty
                      obtain ⟨v0, hv0⟩ := (HD.out.2.2.2 k).some_val
                      have hlook := (look_any 25 22 Try.underlying25 HD.out.1 k HK.out _ zero22' v0 hv0).2
                      have SA : Hid (∀ v, Maps.size (D.put (kl k) (.held v)) = if Maps.has D (kl k) = true then Maps.size D else Maps.size D + 1) := fun v => size_after HD.out.1 k v
                      have heq30 := fun w r => run_eql_map_nil (P := Try.prog) w 30 9 22 r Try.underlying30
                      have HV : Hid (∀ ob, StrsAt (wc.alloc ob) a4 len4 vs) := fun ob => H4.out.later (HD.out.2.1.alloc (Nat.le_of_lt HD.out.2.2.1) ob) (Nat.le_refl _)
                      clear hv0
                      obtain ⟨had, hhad⟩ : ∃ x, Maps.has D (kl k) = x := ⟨_, rfl⟩
                      obtain ⟨N, hN⟩ : ∃ x, Maps.size D = x := ⟨_, rfl⟩
                      rw [hhad] at hlook
                      rw [hN] at hlen25 hszle
                      have SA' : Hid (∀ v, Maps.size (D.put (kl k) (.held v)) = if had = true then N else N + 1) := by
                        intro v
                        rw [SA.out v, hhad, hN]
                      clear SA hhad hN
                      go_wp2_with (fail)
                      refine (new_any _ _ _).mono ?_
                      rintro e w' ⟨rfl, rfl⟩
                      clear hlook hlen25
                      go_wp2_with (fail)
                      refine (header_any _ (some w.heap.size) _ (by simp [go_sem])).mono ?_
                      rintro e w' ⟨rfl, rfl⟩
                      go_wp2_with (fail)
                      refine (clone_any a4 len4 cap4 vs _ (by omega) (HV.out _)).mono ?_
                      rintro e w7 ⟨a', rfl, hs7, hb7⟩
                      have hbw : Below wc.heap.size wc w7 := ((Below.refl _ _).alloc (Nat.le_refl _) _).trans (hb7.mono (by simp))
                      have hw7 : wc.heap.size < w7.heap.size := by
                        have := hb7.size
                        simp at this
                        omega
                      have hBlt : w.heap.size < wc.heap.size := HD.out.2.2.1
                      obtain ⟨w8, hrun8, hown8, hg8⟩ := store_any 30 22 Try.underlying30 (own_below HD.out.1 hbw hBlt) (by omega) k HK.out (.slice a' len4 len4)
                      have F8 : Hid (Fin w w8 keys rows len1 k vs (D.put (kl k) (.held (.slice a' len4 len4))) a' len4) := fin_mk HD.out hbw hs7 hown8 hg8
                      have hrec : w8.cell? ⟨wc.heap.size, 0, none⟩ = some (.map (some w.heap.size)) := by
                        have e1 := hg8.block wc.heap.size hw7 (by simp; omega)
                        rw [World.cell?_of_block (w := w7) e1, hb7.cell (p := ⟨wc.heap.size, 0, none⟩) (by simp)]
                        simp [go_sem]
                      have hN2 := SA'.out (.slice a' len4 len4)
                      have hsz2 := hown8.size_le
                      obtain ⟨D2, hD2⟩ : ∃ x, D.put (kl k) (.held (Value.slice a' len4 len4)) = x := ⟨_, rfl⟩
                      rw [hD2] at F8 hown8 hN2 hsz2
                      obtain ⟨N2, hNe⟩ : ∃ x, Maps.size D2 = x := ⟨_, rfl⟩
                      rw [hNe] at hN2 hsz2
                      have hlen : ∀ ty, (Builtin.len_ #[30] ty #[.map (some w.heap.size)]).run Try.prog w8 = .ok (.int .i64 N2) w8 ∧ (Builtin.len_ #[25] ty #[.map (some w.heap.size)]).run Try.prog w8 = .ok (.int .i64 N2) w8 := by
                        intro ty
                        rw [← hNe]
                        exact ⟨hown8.len Try.underlying30 ty, hown8.len Try.underlying25 ty⟩
                      have hN2' : Hid (N2 = if had = true then N else N + 1) := hN2
                      have H48 : Hid (StrsAt w8 a4 len4 vs) := H4.out.later F8.out.2.1 (Nat.le_refl _)
                      clear hN2 hNe hD2 hown8 hs7 hb7 hbw HD SA' HV hg8
                      go_wp2_with (fail)
                      refine (header_any _ (some w.heap.size) _ hrec).mono ?_
                      rintro e w' ⟨rfl, rfl⟩
                      clear hrun8 hrec
                      go_upto_if 177 with (fail)
                      go_cut [24] (fun x wr => x = .int .i64 N2 ∧ w8 = wr)
                      case first =>
                        cases had with
                        | true =>
                          have e : N2 = N := hN2'.out
                          subst e
                          go_wp2
                          go_meet
                          case rel => exact ⟨rfl, rfl⟩
                        | false =>
                          have e : N2 = N + 1 := hN2'.out
                          subst e
                          go_wp2
                          go_meet
                          case rel => exact ⟨by go_num, rfl⟩
                      case rest =>
                        obtain ⟨rfl, rfl⟩ := hcut
                        have hl30 := fun ty => (hlen ty).1
                        have hl25 := fun ty => (hlen ty).2
                        obtain ⟨lk25, lk30⟩ := F8.out.looks HK.out
                        clear hlen
                        go_wp2_with (fail)
                        refine (eq_later a' a4 len4 len4 cap4 vs _ F8.out.2.2.2.2.2.2 H48.out).mono ?_
                        rintro e w9 ⟨rfl, hb9⟩
                        have F9 : Hid (Fin w w9 keys rows len1 k vs D2 a' len4) := F8.out.later hb9
                        have H49 : Hid (StrsAt w9 a4 len4 vs) := H4.out.later F9.out.2.1 (Nat.le_refl _)
                        obtain ⟨lk25', lk30'⟩ := F9.out.looks HK.out
                        clear hb9 lk25 lk30 hl25 hl30 F8 H48
                        go_wp2_with (fail)
                        refine (eq_later a' a4 len4 len4 cap4 vs _ F9.out.2.2.2.2.2.2 H49.out).mono ?_
                        rintro e w10 ⟨rfl, hb10⟩
                        have F10 : Hid (Fin w w10 keys rows len1 k vs D2 a' len4) := F9.out.later hb10
                        clear hb10 lk25' lk30' F9 H49
                        have hm33 := make_sized 33 ⟨9, 4, Try.underlying33⟩ len1
                        have hM : w.heap.size < w10.heap.size := F10.out.2.2.1
                        obtain ⟨M, hMe⟩ : ∃ x, w10.heap.size = x := ⟨_, rfl⟩
                        have st1 : Hid (Fin w (w10.alloc (.map #[] 0)) keys rows len1 k vs D2 a' len4) := F10.out.later ((Below.refl _ _).alloc (Nat.le_refl _) _)
                        have st2 : Hid ((w10.alloc (.map #[] 0)).ownsMap Try.prog 9 raw M (len1 - len1) (.map [])) := by
                          rw [← hMe]
                          exact (World.ownsMap_made w10 Try.prog 9 raw).mono (Nat.zero_le _)
                        rw [hMe] at hM
                        clear F10
                        go_wp2
                        go_loopw [28, 29, 30, 31] (fun i _ky _g _pr wr => ∃ (z : Int) (c : Nat) (S : DataW Value), c ≤ len1 ∧ Hid (z = (c : Int) - 1) ∧ Hid (Fin w wr keys rows len1 k vs D2 a' len4) ∧ Hid (wr.ownsMap Try.prog 9 raw M (len1 - c) S) ∧ Hid (Seen S keys k c len1) ∧ i = .int .i64 z) (fun i _ _ _ _ => (intOf i + 1).toNat)
                        case atStart => exact ⟨_, len1, _, Nat.le_refl _, rfl, st1, st2, seen_zero keys k len1, rfl⟩
                        case round =>
                          clear st1 st2
                          obtain ⟨z, c, S, hc, hz, HF, HO, HSn, rfl⟩ := hrel
                          by_cases hc0 : c = 0
                          · have e : z = -1 := by
                              have := hz.out
                              omega
                            subst e
                            have HF' : Hid (Below w.heap.size w wr) := HF.out.2.1
                            clear HF HO HSn hz
                            go_wp2
                            go_ret
                            exact ⟨rfl, HF'.out⟩
                          · obtain ⟨c', hcc⟩ : ∃ c', c = c' + 1 := ⟨c - 1, by omega⟩
                            subst hcc
                            have e : z = (c' : Int) := by
                              have := hz.out
                              omega
                            subst e
                            have hlt : c' < len1 := by omega
                            obtain ⟨b, off, rfl, hcl, hs⟩ := (H0.out.later HF.out.2.1 (Nat.le_refl _)).str hlt
                            obtain ⟨s, hse⟩ : ∃ s, s = keys.getD c' ByteArray.empty := ⟨_, rfl⟩
                            have HE : Hid (keys.getD c' ByteArray.empty = s) := hse.symm
                            rw [← hse] at hcl hs
                            have HST : Hid (s.size ≤ maxLen) := hs
                            clear hse hs hz hc0
                            obtain ⟨bb, hbb⟩ := HSn.out.2.1 s
                            have HBB : Hid (S.atKey (kl s) (.held (.bool false)) = .held (.bool bb)) := hbb
                            clear hbb
                            have hlk := (look_any 33 4 Try.underlying33 HO.out s HST.out _ zero4 _ HBB.out).1
                            by_cases hsk : s = k
                            · subst hsk
                              have HSn' : Hid (Seen S keys s c' len1) := HSn.out.skip (.inl HE.out)
                              have HO' : Hid (wr.ownsMap Try.prog 9 raw M (len1 - c') S) := HO.out.mono (by omega)
                              clear HSn HO HBB HE
                              go_wp2
                              go_roundw
                              case rel => exact ⟨_, c', S, by omega, rfl, HF, HO', HSn', rfl⟩
                              case measure => first | (simp [intOf]; omega) | simp [intOf]
                            · have hne : (s.toList == k.toList) = false := ne_toList hsk
                              have hlast := fun h => HSn.out.later (by rw [HE.out]; exact hsk) (by rw [HE.out]; exact h)
                              have HL : Hid (S.atKey (kl s) (.held (.bool false)) = .held (.bool false) → ∀ j, c' < j → j < len1 → keys.getD j ByteArray.empty ≠ keys.getD c' ByteArray.empty) := hlast
                              clear hlast
                              cases bb with
                              | true =>
                                have HSn' : Hid (Seen S keys k c' len1) := HSn.out.skip (.inr (by rw [HE.out]; exact HBB.out))
                                have HO' : Hid (wr.ownsMap Try.prog 9 raw M (len1 - c') S) := HO.out.mono (by omega)
                                clear HSn HO HBB HE HL
                                go_wp2
                                go_roundw
                                case rel => exact ⟨_, c', S, by omega, rfl, HF, HO', HSn', rfl⟩
                                case measure => first | (simp [intOf]; omega) | simp [intOf]
                              | false =>
                                have HV : Hid (lastVal keys rows len1 s = some (rows.getD c' (.bool false, [])).2) := by
                                  have := lastVal_at keys rows c' len1 hlt (HL.out HBB.out)
                                  rw [HE.out] at this
                                  exact this
                                obtain ⟨w2, hrun2, hown2, hg2⟩ := store_any 33 4 Try.underlying33 HO.out (by omega) s HST.out (.bool true)
                                have F2 : Hid (Fin w w2 keys rows len1 k vs D2 a' len4) := HF.out.grown (own_block HO.out) hM hg2
                                have HSn' : Hid (Seen (S.put (kl s) (.held (.bool true))) keys k c' len1) := by
                                  have := HSn.out.mark
                                  rw [HE.out] at this
                                  exact this
                                have HO2 : Hid (w2.ownsMap Try.prog 9 raw M (len1 - c') (S.put (kl s) (.held (.bool true)))) := hown2.mono (by omega)
                                have hM2 : M < w2.heap.size := hown2.lt
                                obtain ⟨a2, l2, lk2, hst2⟩ := F2.out.looks_at HST.out hsk HV.out
                                obtain ⟨b1, off1, ai, li, ci, rfl, hc1, hrow⟩ := (H1.out.later F2.out.2.1 (Nat.le_refl _)).row hlt
                                have el : l2 = li := by rw [← hst2.1, hrow.1]
                                subst el
                                have HQ : Hid (∀ w3, Below w2.heap.size w2 w3 → Fin w w3 keys rows len1 k vs D2 a' len4 ∧ w3.ownsMap Try.prog 9 raw M (len1 - c') (S.put (kl s) (.held (.bool true)))) := fun w3 h3 => ⟨F2.out.later h3, own_below HO2.out h3 hM2⟩
                                have HEq : Hid (Calls Try.prog 11 #[.slice a2 l2 l2, .slice ai l2 ci] w2 fun e w' => e = .returned (.bool true) ∧ Below w2.heap.size w2 w') := eq_later a2 ai l2 l2 ci _ w2 hst2 hrow
                                clear HF HO HSn HBB HE HL HV hg2 hown2 F2 HO2 hst2 hrow
                                go_wp2_with (fail)
                                refine HEq.out.mono ?_
                                rintro e w3 ⟨rfl, hb3⟩
                                obtain ⟨F3, O3⟩ := HQ.out w3 hb3
                                have F3' : Hid (Fin w w3 keys rows len1 k vs D2 a' len4) := F3
                                have O3' : Hid (w3.ownsMap Try.prog 9 raw M (len1 - c') (S.put (kl s) (.held (.bool true)))) := O3
                                clear F3 O3 hb3 HQ HEq lk2 hrun2 hlk
                                go_wp2
                                go_roundw
                                case rel => exact ⟨_, c', _, by omega, rfl, F3', O3', HSn', rfl⟩
                                case measure => first | (simp [intOf]; omega) | simp [intOf]
                  · have hb : ((len1 : Int) != (len0 : Int)) = true := by
                      rw [bne_iff_ne]
                      omega
                    go_wp2
                    go_ret
                    exact ⟨rfl, Below.refl _ _⟩
end Go.Proofs.Qxb6614936a
