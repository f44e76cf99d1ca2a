/- cloneStrings, cloneInts, cloneDeps. -/
import Derived.Test.Qxb6616078aSl
import Derived.Laws.CopyOwn
import Derived.Deep.LoopGhost
import Derived.Deep.CutBlock
import Derived.Deep.DeepCutAuto
import Derived.Deep.Light
namespace Go.Proofs.Qxb6616078a
open Go.RowKit

theorem infoS9 : (Try.prog.info? 9).map (fun i => (i.zero, i.size, i.bytes)) = some (some (.string ByteArray.empty), 1, 16) := by kernel_rfl
theorem infoS3 : (Try.prog.info? 3).map (fun i => (i.zero, i.size, i.bytes)) = some (some (.int .i64 0), 1, 8) := by kernel_rfl
theorem infoS47 : (Try.prog.info? 47).map (fun i => (i.zero, i.size, i.bytes)) = some (some (.slice none 0 0), 1, 24) := by kernel_rfl

theorem made_cells (v : Value) (h : v.cells = #[v]) (n : Nat) : madeCells v.cells n = (List.replicate n v).toArray := by
  unfold madeCells
  rw [h]
  apply Array.ext
  · simp
  · intro i h1 h2
    have : i % 1 = 0 := Nat.mod_one i
    simp [this]
theorem mkS22 (n : Nat) (h : n ≤ 1048577) (w : World) : (Instr.makeSlice 22 (.int .i64 n) (.int .i64 n)).run Try.prog w = .ok (.slice (some ⟨w.heap.size, 0, none⟩) n n) (w.alloc (.cells (List.replicate n (Value.string ByteArray.empty)).toArray 9)) := by
  obtain ⟨i0, hi, hz0, hz1, hz2⟩ := info_parts infoS9
  have := run_make (P := Try.prog) w 22 9 i0 _ Try.underlying22 hi hz0 .i64 .i64 n n (by omega) (by omega) (by rw [hz2]; omega) (by omega)
  rw [hz1, Int.toNat_natCast, Nat.mul_one, made_cells _ rfl] at this
  exact this
theorem mkS47 (n : Nat) (h : n ≤ 1048577) (w : World) : (Instr.makeSlice 47 (.int .i64 n) (.int .i64 n)).run Try.prog w = .ok (.slice (some ⟨w.heap.size, 0, none⟩) n n) (w.alloc (.cells (List.replicate n (Value.int .i64 0)).toArray 3)) := by
  obtain ⟨i0, hi, hz0, hz1, hz2⟩ := info_parts infoS3
  have := run_make (P := Try.prog) w 47 3 i0 _ Try.underlying47 hi hz0 .i64 .i64 n n (by omega) (by omega) (by rw [hz2]; omega) (by omega)
  rw [hz1, Int.toNat_natCast, Nat.mul_one, made_cells _ rfl] at this
  exact this
theorem mkS23 (n : Nat) (h : n ≤ 1048577) (w : World) : (Instr.makeSlice 23 (.int .i64 n) (.int .i64 n)).run Try.prog w = .ok (.slice (some ⟨w.heap.size, 0, none⟩) n n) (w.alloc (.cells (List.replicate n (Value.slice none 0 0)).toArray 47)) := by
  obtain ⟨i0, hi, hz0, hz1, hz2⟩ := info_parts infoS47
  have := run_make (P := Try.prog) w 23 47 i0 _ Try.underlying23 hi hz0 .i64 .i64 n n (by omega) (by omega) (by rw [hz2]; omega) (by omega)
  rw [hz1, Int.toNat_natCast, Nat.mul_one, made_cells _ rfl] at this
  exact this

theorem splice_all {α : Type} (L cs : List α) (h : cs.length = L.length) : splice L 0 cs = cs := by
  unfold splice
  rw [Nat.zero_add, List.drop_of_length_le (by omega)]
  simp

/-- What a clone is. -/
def Cloned (w : World) (vs : List Value) (e : Ending) (w' : World) : Prop := ∃ v', e = .returned v' ∧ Sl0 w' v' vs ∧ Chg (fun _ => False) w w' ∧ ∀ k, v'.ownBlock = some k → w.heap.size ≤ k

/-- copy into a block that has just been made. -/
theorem copy_made {P : Program} (w : World) (t ty e : TypeId) (z : Value) (hu : P.underlying t = some (.slice e)) (hs : (P.info? e).map (·.size) = some 1) (a : Addr) (c : Nat) (vs : List Value)
    (h : vs = [] ∨ ∃ b o, some a = some ⟨b, o, none⟩ ∧ ∀ i x, vs[i]? = some x → w.cell? ⟨b, o + i, none⟩ = some x) (h1 : ∀ v ∈ vs, v.oneCell' = true) :
    ∃ W', (Builtin.copy_ #[t, t] ty #[.slice (some ⟨w.heap.size, 0, none⟩) vs.length vs.length, .slice (some a) vs.length c]).run P (w.alloc (.cells (Array.replicate vs.length z) e)) = .ok (goInt vs.length) W' ∧ Blk W' w.heap.size vs e ∧ Chg (fun _ => False) w W' := by
  obtain ⟨W, hW⟩ : ∃ W, W = w.alloc (.cells (Array.replicate vs.length z) e) := ⟨_, rfl⟩
  have hB : W.heap[w.heap.size]? = some (.cells (Array.replicate vs.length z) e (0, 0)) := hW ▸ heap_alloc_new w _
  have hC : Chg (fun _ => False) w W := hW ▸ Chg.alloc _ _ _
  have hsrc : ∀ (j : Nat) (v : Value), vs[j]? = some v → W.cell? (a.add j) = some v := by
    intro j v hv
    rcases h with h | ⟨b, o, h, h'⟩
    · rw [h] at hv; simp at hv
    · have ea := Option.some.inj h
      subst ea
      have := hC.cell (h' j v hv) (fun h => h)
      by_cases hj : j = 0
      · subst hj; simpa [Addr.add] using this
      · simpa [Addr.add, hj] using this
  have hrun := run_copy_row (P := P) W t t ty e w.heap.size 0 vs.length vs.length a vs.length c (Array.replicate vs.length z) e vs hu hs hB (by simp) hsrc (by simp) h1
  have hl : ((Array.replicate vs.length z).toList.take 0 ++ vs ++ (Array.replicate vs.length z).toList.drop (0 + vs.length)) = vs := by simp
  rw [hl] at hrun
  refine ⟨_, by rw [← hW]; exact hrun, ?_, ?_⟩
  · have hlt := lt_of_block hB
    have hB' : W.heap[w.heap.size] = .cells (Array.replicate vs.length z) e (0, 0) := by simpa [Array.getElem?_eq_getElem hlt] using hB
    show (W.heap.modify w.heap.size _)[w.heap.size]? = _
    rw [Array.getElem?_eq_getElem (by simpa using hlt), Array.getElem_modify_self, hB']
  · exact hC.trans (G := fun k => k = w.heap.size) ⟨rfl, rfl, rfl, by simp [World.setRow], fun k hk hne => setRow_other W w.heap.size k _ hne⟩ (fun b hb => .inr (by omega))

set_option maxHeartbeats 1000000 in
set_option maxRecDepth 100000 in
theorem clone10 (w : World) (v : Value) (vs : List Value) (h : Sl w v vs) (hn : vs.length ≤ 1048577) (h1 : ∀ v ∈ vs, v.oneCell' = true) : Calls Try.prog 10 #[v] w (Cloned w vs) := by
  obtain ⟨a, c, rfl, h⟩ := h
  have hnil := fun w a n c n' c' => Lib.run_eql_slice_nil (P := Try.prog) w 22 9 a n c n' c' Try.underlying22
  cases a with
  | none =>
    have e : vs = [] := by
      rcases h with h | ⟨b, o, h, _⟩
      · exact h
      · cases h
    subst e
    go_enter Try.func10, Try.ntmps10
    go_wp2
    go_ret
    exact ⟨_, rfl, ⟨none, 0, rfl, .inl rfl⟩, Chg.refl _ _, fun k hk => by cases hk⟩
  | some a =>
    have hmk := mkS22 vs.length (by omega)
    obtain ⟨W', hcp, hb, hc⟩ := copy_made (P := Try.prog) w 22 3 9 (Value.string ByteArray.empty) Try.underlying22 (by kernel_rfl) a c vs h h1
    generalize hm : vs.length = m at *
    have HB : Hid (Blk W' w.heap.size vs 9) := hb
    have HC : Hid (Chg (fun _ => False) w W') := hc
    have HM : Hid (m = vs.length) := hm.symm
    clear h h1 hm hb hc
    go_enter Try.func10, Try.ntmps10
    go_wp2
    go_ret
    exact ⟨.slice (some ⟨w.heap.size, 0, none⟩) m m, rfl, ⟨_, m, by rw [HM.out], .inr ⟨w.heap.size, rfl, fun i x hx => HB.out.cell hx⟩⟩, HC.out, fun k hk => by
      have e : w.heap.size = k := by simpa [Value.ownBlock] using hk
      omega⟩

set_option maxHeartbeats 1000000 in
set_option maxRecDepth 100000 in
theorem clone29 (w : World) (v : Value) (vs : List Value) (h : Sl w v vs) (hn : vs.length ≤ 1048577) (h1 : ∀ v ∈ vs, v.oneCell' = true) : Calls Try.prog 29 #[v] w (Cloned w vs) := by
  obtain ⟨a, c, rfl, h⟩ := h
  have hnil := fun w a n c n' c' => Lib.run_eql_slice_nil (P := Try.prog) w 47 3 a n c n' c' Try.underlying47
  cases a with
  | none =>
    have e : vs = [] := by
      rcases h with h | ⟨b, o, h, _⟩
      · exact h
      · cases h
    subst e
    go_enter Try.func29, Try.ntmps29
    go_wp2
    go_ret
    exact ⟨_, rfl, ⟨none, 0, rfl, .inl rfl⟩, Chg.refl _ _, fun k hk => by cases hk⟩
  | some a =>
    have hmk := mkS47 vs.length (by omega)
    obtain ⟨W', hcp, hb, hc⟩ := copy_made (P := Try.prog) w 47 3 3 (Value.int .i64 0) Try.underlying47 (by kernel_rfl) a c vs h h1
    generalize hm : vs.length = m at *
    have HB : Hid (Blk W' w.heap.size vs 3) := hb
    have HC : Hid (Chg (fun _ => False) w W') := hc
    have HM : Hid (m = vs.length) := hm.symm
    clear h h1 hm hb hc
    go_enter Try.func29, Try.ntmps29
    go_wp2
    go_ret
    exact ⟨.slice (some ⟨w.heap.size, 0, none⟩) m m, rfl, ⟨_, m, by rw [HM.out], .inr ⟨w.heap.size, rfl, fun i x hx => HB.out.cell hx⟩⟩, HC.out, fun k hk => by
      have e : w.heap.size = k := by simpa [Value.ownBlock] using hk
      omega⟩

/-- cloneDeps, k rows on. -/
structure CD (w : World) (B n : Nat) (xss : List (List Value)) (wr : World) (k : Nat) (hs : List Value) : Prop where
  blk : Blk wr B (hs ++ List.replicate (n - k) (.slice none 0 0)) 47
  len : hs.length = k
  rows : ∀ (i : Nat) (h : Value) (xs : List Value), hs[i]? = some h → xss[i]? = some xs → Sl wr h xs
  ne : ∀ h ∈ hs, h.ownBlock ≠ some B
  chg : Chg (fun _ => False) w wr

theorem CD.step {w : World} {B n : Nat} {xss : List (List Value)} {wr : World} {k : Nat} {hs : List Value} (h : CD w B n xss wr k hs) (hk : k < n) (hB : w.heap.size ≤ B) {w2 : World} (hc : Chg (fun _ => False) wr w2) {v : Value} {xs : List Value} (hx : xss[k]? = some xs) (hv : Sl0 w2 v xs) (ho : ∀ b, v.ownBlock = some b → wr.heap.size ≤ b) :
    CD w B n xss (w2.setCell ⟨B, k, none⟩ v) (k + 1) (hs ++ [v]) := by
  have hlt := h.blk.lt
  have hs1 := Chg.setCell w2 ⟨B, k, none⟩ v
  have hvB : ∀ b, v.ownBlock = some b → ¬ b = B := fun b hb e => by have := ho b hb; omega
  exact {
    blk := by
      have h1 := (h.blk.chg hc (fun hf => hf)).set k v
      have e : (hs ++ List.replicate (n - k) (Value.slice none 0 0)).set k v = (hs ++ [v]) ++ List.replicate (n - (k + 1)) (Value.slice none 0 0) := by
        rw [show n - k = (n - (k + 1)) + 1 by omega, List.replicate_succ, List.set_append_right _ _ (by have := h.len; omega), h.len]
        simp
      rw [e] at h1
      exact h1
    len := by simp [h.len]
    rows := fun i x ys hi hy => by
      by_cases hik : i < hs.length
      · rw [List.getElem?_append_left hik] at hi
        exact ((h.rows i x ys hi hy).chg hc).chgF hs1 (fun b hb e => h.ne x (List.mem_of_getElem? hi) (by rw [hb]; exact congrArg some e))
      · have hi' : i = k := by
          have := (List.getElem?_eq_some_iff.1 hi).1
          have hl := h.len
          simp at this
          omega
        subst hi'
        rw [List.getElem?_append_right (by have := h.len; omega), h.len] at hi
        simp at hi
        subst hi
        rw [hx] at hy
        cases hy
        exact hv.sl.chgF hs1 hvB
    ne := fun x hx' e => by
      rcases List.mem_append.1 hx' with hx' | hx'
      · exact h.ne x hx' e
      · simp at hx'
        subst hx'
        exact hvB B e rfl
    chg := (h.chg.trans hc (fun _ h => h.elim)).trans hs1 (fun b hb => .inr (by have e : b = B := hb; omega)) }

/-- What a clone of rows is. -/
def ClonedG (w : World) (xss : List (List Value)) (e : Ending) (w' : World) : Prop := ∃ v', e = .returned v' ∧ Grid w' v' xss ∧ Chg (fun _ => False) w w'

set_option maxHeartbeats 1000000 in
set_option maxRecDepth 100000 in
theorem clone11 (w : World) (v : Value) (xss : List (List Value)) (h : Grid w v xss) (hn : xss.length ≤ 1048577) (hn1 : ∀ xs ∈ xss, xs.length ≤ 1048577) (h1 : ∀ xs ∈ xss, ∀ v ∈ xs, v.oneCell' = true) : Calls Try.prog 11 #[v] w (ClonedG w xss) := by
  obtain ⟨hs, ⟨a, c, rfl, h⟩, hl, hrow⟩ := h
  have hnil := fun w a n c n' c' => Lib.run_eql_slice_nil (P := Try.prog) w 23 47 a n c n' c' Try.underlying23
  cases a with
  | none =>
    have e : hs = [] := by
      rcases h with h | ⟨b, o, h, _⟩
      · exact h
      · cases h
    subst e
    go_enter Try.func11, Try.ntmps11
    go_wp2
    go_ret
    exact ⟨_, rfl, ⟨[], ⟨none, 0, rfl, .inl rfl⟩, hl, fun i h xs hh => by simp at hh⟩, Chg.refl _ _⟩
  | some a =>
    have hmk := mkS23 hs.length (by omega)
    generalize hm : hs.length = m at *
    have HC : Hid (∀ i x, hs[i]? = some x → ∃ b o, a = ⟨b, o, none⟩ ∧ w.cell? ⟨b, o + i, none⟩ = some x) := by
      intro i x hx
      rcases h with h | ⟨b, o, h, h'⟩
      · rw [h] at hx; simp at hx
      · exact ⟨b, o, Option.some.inj h, h' i x hx⟩
    have HR : Hid (∀ (i : Nat) (h : Value) (xs : List Value), hs[i]? = some h → xss[i]? = some xs → Sl w h xs) := hrow
    have HL : Hid (hs.length = m) := hm
    have H1 : Hid (∀ xs ∈ xss, ∀ v ∈ xs, v.oneCell' = true) := h1
    have HN1 : Hid (∀ xs ∈ xss, xs.length ≤ 1048577) := hn1
    have HD0 : Hid (CD w w.heap.size m xss (w.alloc (.cells (Array.replicate m (Value.slice none 0 0)) 47)) 0 []) := {
      blk := by
        have := Blk.new w (List.replicate m (Value.slice none 0 0)) 47
        simpa using this
      len := rfl
      rows := fun i h xs hh => by simp at hh
      ne := by simp
      chg := Chg.alloc _ _ _ }
    have HX : Hid (m = xss.length) := hl
    have hm2 : m ≤ 1048577 := by omega
    clear h hrow hm h1 hn1 hl
    go_enter Try.func11, Try.ntmps11
    go_wp2
    go_loopg [4] m (fun gh s wi => ∃ (k : Nat) (hs' : List Value), k ≤ m ∧ gh = m - k ∧ s = .int .i64 k ∧ Hid (CD w w.heap.size m xss wi k hs'))
    case atStart => exact ⟨0, [], Nat.zero_le _, rfl, rfl, HD0.out⟩
    case round =>
      obtain ⟨k, hs', hk, rfl, rfl, HD⟩ := hrel
      clear HD0
      by_cases hkm : k < m
      · have hkz : (k : Int) < (m : Int) := by omega
        obtain ⟨x, hx⟩ : ∃ x, hs[k]? = some x := ⟨_, List.getElem?_eq_getElem (by have := HL.out; omega)⟩
        obtain ⟨xs, hxs⟩ : ∃ xs, xss[k]? = some xs := ⟨_, List.getElem?_eq_getElem (by have := HX.out; omega)⟩
        obtain ⟨b, o, rfl, hc⟩ := HC.out k x hx
        have d1 : wr.cell? ⟨b, o + k, none⟩ = some x := HD.out.chg.cell hc (fun h => h)
        obtain ⟨y, hy⟩ : ∃ y, (hs' ++ List.replicate (m - k) (Value.slice none 0 0))[k]? = some y := ⟨_, List.getElem?_eq_getElem (by have := HD.out.len; simp; omega)⟩
        have HY : Hid ((hs' ++ List.replicate (m - k) (Value.slice none 0 0))[k]? = some y) := hy
        have HXS : Hid (xss[k]? = some xs) := hxs
        have HCl : Hid (Calls Try.prog 29 #[x] wr (Cloned wr xs)) := clone29 wr x xs ((HR.out k x xs hx hxs).chg HD.out.chg) (HN1.out xs (List.mem_of_getElem? hxs)) (H1.out xs (List.mem_of_getElem? hxs))
        clear hx hxs hc hy
        go_wp2_with (go_at_call 29; refine HCl.out.mono ?_; rintro e w2 ⟨v2, rfl, hv2, hc2, ho2⟩; obtain ⟨a2, c2, he2, hx2⟩ := id hv2; clear hx2; subst he2; have d2 := (HD.out.blk.chg hc2 (fun h => h)).cell HY.out; have f2 := (HD.out.blk.chg hc2 (fun h => h)).free k; have HN : Hid (CD w w.heap.size m xss (w2.setCell ⟨w.heap.size, k, none⟩ (.slice a2 xs.length c2)) (k + 1) (hs' ++ [.slice a2 xs.length c2])) := HD.out.step hkm (Nat.le_refl _) hc2 HXS.out hv2 ho2; clear hv2 hc2 ho2)
        go_roundg (m - (k + 1))
        case measure => go_light; omega
        case rel => exact ⟨k + 1, _, by omega, rfl, by go_num, HN.out⟩
      · have e : k = m := by omega
        subst e
        go_wp2
        go_ret
        have hb := HD.out.blk
        simp only [Nat.sub_self, List.replicate_zero, List.append_nil] at hb
        exact ⟨.slice (some ⟨w.heap.size, 0, none⟩) k k, rfl, ⟨hs', ⟨_, k, by rw [HD.out.len], .inr ⟨w.heap.size, 0, rfl, fun i x hx => by rw [Nat.zero_add]; exact hb.cell hx⟩⟩, by rw [HD.out.len, HX.out], HD.out.rows⟩, HD.out.chg⟩
end Go.Proofs.Qxb6616078a
