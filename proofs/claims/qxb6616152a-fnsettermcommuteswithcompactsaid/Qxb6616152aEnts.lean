/- The log's entries: three cells each; zzb1Entries; slices.Clone. -/
import Derived.Test.Qxb6616152aMem
namespace Go.Proofs.Qxb6616152a
open Go.ChangeShapes Go.WideShapes Go.ChangeAt Go.RowKit

theorem stop31 {p : Prop} (h : Hid p) : p := h

/-- The cells of entries (index, term), no data. -/
def ents : List (Int × Int) → List Value
  | [] => []
  | p :: r => .int .u64 p.1 :: .int .u64 p.2 :: .slice none 0 0 :: ents r

theorem ents_length : ∀ l : List (Int × Int), (ents l).length = 3 * l.length
  | [] => rfl
  | p :: r => by simp [ents, ents_length r]; omega

theorem ents_drop : ∀ (l : List (Int × Int)) (c : Nat), (ents l).drop (3 * c) = ents (l.drop c)
  | l, 0 => by simp
  | [], c + 1 => by simp [ents]
  | p :: r, c + 1 => by
    have : 3 * (c + 1) = 3 * c + 1 + 1 + 1 := by omega
    rw [this]
    simp [ents, ents_drop r c]

theorem ents_at : ∀ (l : List (Int × Int)) (i : Nat) (hi : i < l.length), (ents l)[3 * i]? = some (.int .u64 l[i].1) ∧ (ents l)[3 * i + 1]? = some (.int .u64 l[i].2) ∧ (ents l)[3 * i + 2]? = some (.slice none 0 0)
  | [], i, hi => by simp at hi
  | p :: r, 0, _ => by simp [ents]
  | p :: r, i + 1, hi => by
    have h := ents_at r i (by simpa using hi)
    have e : 3 * (i + 1) = 3 * i + 1 + 1 + 1 := by omega
    have e1 : 3 * (i + 1) + 1 = 3 * i + 1 + 1 + 1 + 1 := by omega
    have e2 : 3 * (i + 1) + 2 = 3 * i + 2 + 1 + 1 + 1 := by omega
    rw [e1, e2, e]
    simpa [ents] using h

theorem ents_set : ∀ (l : List (Int × Int)) (i : Nat) (_hi : i < l.length) (p : Int × Int), (((ents l).set (3 * i) (.int .u64 p.1)).set (3 * i + 1) (.int .u64 p.2)).set (3 * i + 2) (.slice none 0 0) = ents (l.set i p)
  | [], i, hi, _ => by simp at hi
  | q :: r, 0, _, p => by simp [ents]
  | q :: r, i + 1, hi, p => by
    have h := ents_set r i (by simpa using hi) p
    have e : 3 * (i + 1) = 3 * i + 1 + 1 + 1 := by omega
    have e1 : 3 * (i + 1) + 1 = 3 * i + 1 + 1 + 1 + 1 := by omega
    have e2 : 3 * (i + 1) + 2 = 3 * i + 2 + 1 + 1 + 1 := by omega
    rw [e1, e2, e]
    simp [ents, h]

theorem ents_rep (n : Nat) : madeCells (Value.agg #[.int .u64 0, .int .u64 0, .slice none 0 0]).cells (n * 3) = (ents (List.replicate n (0, 0))).toArray := by
  unfold madeCells
  apply Array.ext
  · simp [ents_length]; omega
  · intro i h1 h2
    simp at h1
    have hi : i / 3 < n := by omega
    have h := ents_at (List.replicate n (0, 0)) (i / 3) (by simpa using hi)
    simp only [List.getElem_replicate] at h
    have hm : i % 3 = 0 ∨ i % 3 = 1 ∨ i % 3 = 2 := by omega
    have key : ∀ v, (ents (List.replicate n (0, 0)))[i]? = some v → (ents (List.replicate n (0, 0))).toArray[i] = v := by
      intro v hv
      have := List.getElem?_eq_some_iff.1 hv
      simpa using this.2
    rcases hm with hm | hm | hm
    · have e : 3 * (i / 3) = i := by omega
      rw [e] at h
      rw [key _ h.1]
      simp [Value.cells, hm]
    · have e : 3 * (i / 3) + 1 = i := by omega
      rw [e] at h
      rw [key _ h.2.1]
      simp [Value.cells, hm]
    · have e : 3 * (i / 3) + 2 = i := by omega
      rw [e] at h
      rw [key _ h.2.2]
      simp [Value.cells, hm]

theorem info39 : (Try.prog.info? 39).map (fun i => (i.zero, i.size, i.bytes)) = some (some (.agg #[.int .u64 0, .int .u64 0, .slice none 0 0]), 3, 40) := by kernel_rfl

theorem make31 (n : Nat) (h : n ≤ 1048576) (w : World) : (Instr.makeSlice 31 (.int .i64 n) (.int .i64 n)).run Try.prog w = .ok (.slice (some ⟨w.heap.size, 0, none⟩) n n) (w.alloc (.cells (ents (List.replicate n (0, 0))).toArray 39)) := by
  obtain ⟨i0, hi, hz0, hz1, hz2⟩ := info_parts info39
  have := run_make (P := Try.prog) w 31 39 i0 _ Try.underlying31 hi hz0 .i64 .i64 n n (by omega) (by omega) (by rw [hz2]; omega) (by omega)
  rw [hz1, Int.toNat_natCast, ents_rep] at this
  exact this

theorem build39 (a b : Int) (w : World) : (Instr.build 39 #[(0, .int .u64 a), (1, .int .u64 b)]).run Try.prog w = .ok (.agg #[.int .u64 a, .int .u64 b, .slice none 0 0]) w := run_build w 39 _ _ (by kernel_rfl)

set_option maxHeartbeats 1000000 in
theorem entries_some (base : Int) (x : Addr) (len cap : Nat) (zs : List Int) (w : World) (h : IntsAt .u64 w (some x) len zs) :
    Calls Try.prog 6 #[.int .u64 base, .slice (some x) len cap] w fun e w' => ∃ xs : List (Int × Int), e = .returned (.slice (some ⟨w.heap.size, 0, none⟩) len len) ∧ w.alloc (.cells (ents xs).toArray 39) = w' ∧ xs.map Prod.snd = zs := by
  obtain ⟨h1, h2, h4⟩ := h
  have hmk := make31 len (by omega)
  have hb := build39
  have hnil := fun w a n c n' c' => Lib.run_eql_slice_nil (P := Try.prog) w 23 22 a n c n' c' Try.underlying23
  go_enter Try.func6, Try.ntmps6
  go_wp2
  go_loopw [6] (fun i wr => ∃ (k : Nat) (xs : List (Int × Int)), k ≤ len ∧ i = .int .i64 k ∧ xs.length = len ∧ Hid ((xs.map Prod.snd).take k = zs.take k) ∧ wr = w.alloc (.cells (ents xs).toArray 39)) (fun i _ => len - (intOf i).toNat)
  case atStart => exact ⟨0, List.replicate len (0, 0), Nat.zero_le _, rfl, by simp, rfl, rfl⟩
  case round =>
    obtain ⟨k, xs, hk, rfl, hx, HX, rfl⟩ := hrel
    by_cases hlt : k < len
    · rcases h4 with h4 | ⟨b, off, h5, hc⟩
      · omega
      · cases h5
        have hck := hc k hlt
        have hbl := cell_lt hck
        obtain ⟨s, hs⟩ : ∃ s, s = zs.getD k 0 := ⟨_, rfl⟩
        rw [← hs] at hck
        have HS : Hid (s = zs.getD k 0) := hs
        have hck' : ∀ o, (w.alloc o).cell? ⟨b, off + k, none⟩ = some (.int .u64 s) := fun o => (World.cell?_alloc_past o _ _ hbl).trans hck
        have hg := ents_at xs k (by omega)
        rw [Nat.mul_comm] at hg
        obtain ⟨g0, g1, g2⟩ := hg
        obtain ⟨v0, e0⟩ : ∃ v, v = Value.int .u64 (xs[k]'(by omega)).1 := ⟨_, rfl⟩
        obtain ⟨v1, e1⟩ : ∃ v, v = Value.int .u64 (xs[k]'(by omega)).2 := ⟨_, rfl⟩
        rw [← e0] at g0
        rw [← e1] at g1
        obtain ⟨ix, hix⟩ : ∃ ix, ix = IntKind.u64.wrap (IntKind.u64.wrap (base + 1) + (k : Int)) := ⟨_, rfl⟩
        have HI : Hid (ix = IntKind.u64.wrap (IntKind.u64.wrap (base + 1) + (k : Int))) := hix
        have HE : Hid ((((ents xs).set (k * 3) (.int .u64 ix)).set (k * 3 + 1) (.int .u64 s)).set (k * 3 + 2) (.slice none 0 0) = ents (xs.set k (ix, s))) := by
          have := ents_set xs k (by omega) (ix, s)
          rw [Nat.mul_comm] at this
          exact this
        clear hc hck hs e0 e1 hix
        go_wp2
        go_roundw
        case rel =>
          refine ⟨k + 1, xs.set k (ix, s), by omega, by go_num, by simp; omega, ?_, ?_⟩
          · show ((xs.set k (ix, s)).map Prod.snd).take (k + 1) = zs.take (k + 1)
            rw [List.map_set, List.take_succ_eq_append_getElem (by simp; omega), List.take_set_of_le (by omega), HX.out, List.take_succ_eq_append_getElem (by omega)]
            simp [HS.out, List.getD_eq_getElem?_getD, List.getElem?_eq_getElem (show k < zs.length by omega)]
          · rw [← HE.out, ← HI.out]
        case measure => simp [intOf]; omega
    · have e : k = len := by omega
      subst e
      have HX' : Hid (xs.map Prod.snd = zs) := by
        have := HX.out
        rw [List.take_of_length_le (by simp; omega), List.take_of_length_le (by omega)] at this
        exact this
      go_wp2
      go_ret
      exact ⟨xs, rfl, rfl, HX'.out⟩

/-- The slice '(a, len)' leads to those entries. -/
def EntsAt (w : World) (a : Option Addr) (len : Nat) (xs : List (Int × Int)) : Prop :=
  xs.length = len ∧ len ≤ 1048576 ∧ (len = 0 ∨ ∃ b off, a = some ⟨b, off, none⟩ ∧ ∀ j, j < 3 * len → w.cell? ⟨b, off + j, none⟩ = (ents xs)[j]?)

theorem EntsAt.later {w w' : World} {B : Nat} {a : Option Addr} {len : Nat} {xs : List (Int × Int)} (h : EntsAt w a len xs) (hb : Below B w w') (hB : w.heap.size ≤ B) : EntsAt w' a len xs := by
  obtain ⟨h1, h2, h4⟩ := h
  refine ⟨h1, h2, ?_⟩
  rcases h4 with h4 | ⟨b, off, rfl, hc⟩
  · exact .inl h4
  · refine .inr ⟨b, off, rfl, fun i hi => ?_⟩
    have := hc i hi
    have hl : i < (ents xs).length := by rw [ents_length]; omega
    rw [List.getElem?_eq_getElem hl] at this ⊢
    rw [hb.cell (p := ⟨b, off + i, none⟩) (Nat.lt_of_lt_of_le (cell_lt this) hB)]
    exact this

theorem ents_one : ∀ (l : List (Int × Int)), ∀ u ∈ ents l, u.oneCell' = true
  | [], u, h => by simp [ents] at h
  | p :: r, u, h => by
    simp [ents] at h
    rcases h with rfl | rfl | rfl | h
    · rfl
    · rfl
    · rfl
    · exact ents_one r u h

/-- What an owned row of entries is, read. -/
theorem row_ents {w1 : World} {B : Nat} {v : Value} {len : Nat} {xs : List (Int × Int)} (h : w1.ownsRow B 39 3 v (0 + len) ([] ++ ents xs)) (hl : xs.length = len) (h2 : len ≤ 1048576) :
    ∃ a' cap', v = .slice a' len cap' ∧ EntsAt w1 a' len xs ∧ ∀ y, a' = some y → B ≤ y.block := by
  obtain ⟨_, h⟩ := h
  rw [Nat.zero_add] at h
  rcases h with ⟨rfl, h0⟩ | ⟨g, cap, cur, rfl, hg, hb, hle, _, hsz, ht⟩
  · subst h0
    exact ⟨none, 0, rfl, ⟨hl, h2, .inl rfl⟩, fun y h => by cases h⟩
  · refine ⟨_, cap, rfl, ⟨hl, h2, .inr ⟨g, 0, rfl, fun j hj => ?_⟩⟩, fun y h => by cases h; exact hg⟩
    rw [Nat.zero_add]
    have e1 : (ents xs)[j]? = cur.toList[j]? := by
      rw [← List.nil_append (ents xs), ← ht, List.getElem?_take]
      simp
      omega
    rw [e1]
    unfold World.cell?
    simp [hb]

set_option maxHeartbeats 1000000 in
theorem sclone_some (x : Addr) (len cap : Nat) (xs : List (Int × Int)) (w : World) (h : EntsAt w (some x) len xs) :
    Calls Try.prog 11 #[.slice (some x) len cap] w fun e w' => ∃ a' cap', e = .returned (.slice a' len cap') ∧ EntsAt w' a' len xs ∧ Below w.heap.size w w' ∧ ∀ y, a' = some y → w.heap.size ≤ y.block := by
  obtain ⟨h1, h2, h4⟩ := h
  have hnil := fun w a n c n' c' => Lib.run_eql_slice_nil (P := Try.prog) w 31 39 a n c n' c' Try.underlying31
  obtain ⟨i0, hi, hz0, hz1, hz2⟩ := info_parts info39
  go_enter Try.func11, Try.ntmps11
  have hnews : Hid (∀ o j u, (ents xs)[j]? = some u → (w.alloc o).cell? (x.add j) = some u) := by
    intro o j u hu
    rcases h4 with h4 | ⟨b, off, h5, hc⟩
    · have : xs = [] := List.eq_nil_of_length_eq_zero (by omega)
      subst this
      simp [ents] at hu
    · cases h5
      have hj : j < (ents xs).length := (List.getElem?_eq_some_iff.1 hu).1
      rw [ents_length] at hj
      have hcj := hc j (by omega)
      rw [hu] at hcj
      rw [Go.WideShapes.add_plain, World.cell?_alloc_past o _ _ (cell_lt hcj)]
      exact hcj
  have hxl : Hid (xs.length = len) := h1
  have ho : Hid ((w.alloc (.cells #[] 39)).ownsRow w.heap.size 39 3 (.slice (some ⟨w.heap.size, 0, none⟩) 0 0) 0 []) := World.ownsRow_made w #[] 0 (Nat.le_refl _) (Nat.zero_le _) rfl
  clear h1 h4
  go_wp2_with (first | (at_builtin; refine stop31 ?_))
  change wpList _ _ _ _ _ _
  refine wpList_append_own _ rfl _ _ 31 rfl w.heap.size 39 i0 _ 3 40 Try.underlying31 hi hz0 hz1 hz2 rfl (by decide) _ 0 [] rfl ho.out x len cap (ents xs) rfl ?hl (hnews.out _) ?h1 ?h63 ?hby ?hba ?_
  case hl => rw [ents_length, hxl.out, Nat.mul_comm]
  case h1 => exact ents_one xs
  case h63 => unfold maxLen; omega
  case hby => omega
  case hba => simp
  intro v' w1 hown' hgrow _
  obtain ⟨a', cap', hv, hE, hB⟩ : ∃ a' cap', v' = .slice a' len cap' ∧ EntsAt w1 a' len xs ∧ ∀ y, a' = some y → w.heap.size ≤ y.block := row_ents hown' hxl.out h2
  have hbel : Hid (Below w.heap.size w w1) := ((Below.refl _ _).alloc (Nat.le_refl _) _).grown hgrow (by simp) (fun k hk => by
    have e : some w.heap.size = some k := hk
    cases e
    exact Nat.le_refl _)
  have HE : Hid (EntsAt w1 a' len xs) := hE
  have HB : Hid (∀ y, a' = some y → w.heap.size ≤ y.block) := hB
  rw [hv]
  clear hv hE hB hgrow hown' hnews ho
  go_wp2
  go_ret
  exact ⟨a', cap', rfl, HE.out, hbel.out, HB.out⟩

theorem sclone_any (a : Option Addr) (len cap : Nat) (xs : List (Int × Int)) (w : World) (h : EntsAt w a len xs) :
    Calls Try.prog 11 #[.slice a len cap] w fun e w' => ∃ a' cap', e = .returned (.slice a' len cap') ∧ EntsAt w' a' len xs ∧ Below w.heap.size w w' ∧ ∀ y, a' = some y → w.heap.size ≤ y.block := by
  cases a with
  | some x => exact sclone_some x len cap xs w h
  | none =>
    have hz : len = 0 := by
      rcases h.2.2 with h | ⟨b, off, h, _⟩
      · exact h
      · cases h
    have hnil := fun w a n c n' c' => Lib.run_eql_slice_nil (P := Try.prog) w 31 39 a n c n' c' Try.underlying31
    subst hz
    have h' : Hid (EntsAt w none 0 xs) := h
    clear h
    go_enter Try.func11, Try.ntmps11
    go_wp2
    go_ret
    exact ⟨none, 0, rfl, h'.out, Below.refl _ _, fun y h => by cases h⟩

theorem entries_any (base : Int) (a : Option Addr) (len cap : Nat) (zs : List Int) (w : World) (h : IntsAt .u64 w a len zs) :
    Calls Try.prog 6 #[.int .u64 base, .slice a len cap] w fun e w' => ∃ (a' : Option Addr) (xs : List (Int × Int)), e = .returned (.slice a' len len) ∧ EntsAt w' a' len xs ∧ xs.map Prod.snd = zs ∧ Below w.heap.size w w' := by
  cases a with
  | some x =>
    refine (entries_some base x len cap zs w h).mono ?_
    rintro e w' ⟨xs, rfl, rfl, hx⟩
    have hl : xs.length = len := by
      have := congrArg List.length hx
      simp at this
      rw [this]
      exact h.1
    refine ⟨_, xs, rfl, ⟨hl, h.2.1, .inr ⟨_, 0, rfl, fun j hj => ?_⟩⟩, hx, (Below.refl _ _).alloc (Nat.le_refl _) _⟩
    rw [Nat.zero_add, World.cell?_alloc_new]
    simp
  | none =>
    have hz : len = 0 := by
      rcases h.2.2 with h | ⟨b, off, h, _⟩
      · exact h
      · cases h
    have hzs : Hid (zs = []) := List.eq_nil_of_length_eq_zero (by rw [h.1, hz])
    have hnil := fun w a n c n' c' => Lib.run_eql_slice_nil (P := Try.prog) w 23 22 a n c n' c' Try.underlying23
    subst hz
    clear h
    go_enter Try.func6, Try.ntmps6
    go_wp2
    go_ret
    exact ⟨none, [], rfl, ⟨rfl, by omega, .inl rfl⟩, by rw [hzs.out]; rfl, Below.refl _ _⟩
end Go.Proofs.Qxb6616152a
