/- The walk of FnWriteKeepsStatusAndHeader. -/
import Derived.Test.Qxb6614936aRows
import Derived.Test.Qxb6614936aMap
import Derived.Test.Qxb6614936aRec
import Derived.WalkKit
import Derived.ProofKit
import Derived.OpenShut
import Derived.ShutString
import Derived.ChangeOld
import Derived.Below
import Derived.Carry
import Derived.WalkLawsBesides
import Derived.Outline
namespace Go.Proofs.Qxb6614936a.fnWriteKeepsStatusAndHeader
open Go.ChangeShapes Go.WideShapes Go.ChangeAt Go.RowKit

set_option maxHeartbeats 1000000 in
theorem bytes_any (a0 : Int) (a1 a2 : ByteArray) (a3 : Option Addr) (len3 cap3 : Nat) (w : World) (h1 : a1.size ≤ maxLen) (h2 : a2.size ≤ maxLen) (h3 : len3 ≤ maxLen) :
    Calls Try.prog 14 #[.int .i64 a0, .string a1, .string a2, .slice a3 len3 cap3] w fun e w' => (∃ b, e = .returned (.bool b)) ∧ w = w' := by
  unfold maxLen at h1 h2 h3
  go_enter Try.func14, Try.ntmps14
  go_wp2
  all_goals
    go_ret
    exact ⟨⟨_, rfl⟩, rfl⟩

/-- The map of one entry. -/
theorem one_entry (k : Lit) (hk : WideAt.IsKeyLit k) (v z : Value) : Maps.size ((DataW.map []).put k (.held v) : DataW Value) = 1 ∧ Maps.has ((DataW.map []).put k (.held v) : DataW Value) k = true ∧ ((DataW.map []).put k (.held v) : DataW Value).atKey k (.held z) = .held v :=
  ⟨rfl, Maps.has_put_same Maps.isMap_empty hk _, Maps.atKey_put_same Maps.isMap_empty hk _ _⟩

/-- What the world is behind the literal's store. -/
theorem behind (w w1 : World) (s : ByteArray) (hg : ((w.alloc (.map #[] 0)).alloc (.cells #[.string s] 9)).grownBy w1 (some w.heap.size)) :
    Below w.heap.size w w1 ∧ w.heap.size + 2 ≤ w1.heap.size ∧ w1.cell? ⟨w.heap.size + 1, 0, none⟩ = some (.string s) := by
  have hs : ((w.alloc (.map #[] 0)).alloc (.cells #[.string s] 9)).heap.size = w.heap.size + 2 := by simp
  refine ⟨?_, ?_, ?_⟩
  · exact (((Below.refl _ _).alloc (Nat.le_refl _) _).alloc (by simp) _).grown hg (by rw [hs]; omega) (fun k hk => by cases hk; exact Nat.le_refl _)
  · have := hg.size
    rw [hs] at this
    exact this
  · have hb := hg.block (w.heap.size + 1) (by rw [hs]; omega) (by simp)
    rw [World.cell?_of_block (w := (w.alloc (.map #[] 0)).alloc (.cells #[.string s] 9)) hb]
    simp [go_sem]

set_option maxHeartbeats 1000000 in
theorem walk_main (a0 : Int) (a1 a2 : ByteArray) (a3 : Option Addr) (len3 cap3 : Nat) (w : World) (h1 : a1.size ≤ maxLen) (h2 : a2.size ≤ maxLen) (h3 : len3 ≤ maxLen) :
    Calls Try.prog 5 #[.int .i64 a0, .string a1, .string a2, .slice a3 len3 cap3] w fun e w' => e = .returned (.bool true) ∧ Below w.heap.size w w' := by
  have hmm := @run_makeMap Try.prog
  have hown : Hid ((w.alloc (.map #[] 0)).ownsMap Try.prog 9 raw w.heap.size 0 (.map [])) := World.ownsMap_made w Try.prog 9 raw
  have hm1 : Hid (a1.size ≤ maxLen) := h1
  have hbytes : Hid (∀ w, Calls Try.prog 14 #[.int .i64 a0, .string a1, .string a2, .slice a3 len3 cap3] w fun e w' => (∃ b, e = .returned (.bool b)) ∧ w = w') := fun w => bytes_any a0 a1 a2 a3 len3 cap3 w h1 h2 h3
  unfold maxLen at h1 h2 h3
  obtain ⟨n1, e1⟩ : ∃ n, a1.size = n := ⟨_, rfl⟩
  obtain ⟨n2, e2⟩ : ∃ n, a2.size = n := ⟨_, rfl⟩
  rw [e1] at h1
  rw [e2] at h2
  go_enter Try.func5, Try.ntmps5
  go_wp2_with (fail)
  refine (hbytes.out _).mono ?_
  rintro e w' ⟨⟨b, rfl⟩, rfl⟩
  cases b with
  | false =>
    go_wp2
    go_ret
    exact ⟨rfl, Below.refl _ _⟩
  | true =>
    by_cases c1 : 262144 < n1
    · go_wp2
      go_ret
      exact ⟨rfl, Below.refl _ _⟩
    · by_cases c2 : 262144 < n2
      · go_wp2
        go_ret
        exact ⟨rfl, Below.refl _ _⟩
      · by_cases c3 : 524288 < len3
        · go_wp2
          go_ret
          exact ⟨rfl, Below.refl _ _⟩
        · go_wp2_with (first | (with_reducible refine atInsert rfl ?_; refine stopHere ?_))
          change wpList _ _ _ _ _ _
          refine wpList_insert_own _ rfl _ _ _ 25 rfl 9 22 law9 Try.underlying25 raw w.heap.size 0 (.map []) rfl ?hown (by unfold maxLen; omega) _ (.slice (some ⟨w.heap.size + 1, 0, none⟩) 1 1) (kl a1) rfl rfl ?hkey (.held (.slice (some ⟨w.heap.size + 1, 0, none⟩) 1 1)) [] (raw_mk _) ?_
          case hown => exact hown.out.alloc _
          case hkey => exact key9 hm1.out
          intro w1 hown1 hgrow1
          obtain ⟨f1, f2, f3⟩ := one_entry (kl a1) (kl_key a1) (.slice (some ⟨w.heap.size + 1, 0, none⟩) 1 1) (.slice none 0 0)
          obtain ⟨bel, hsz, hcell⟩ := behind w w1 a2 hgrow1
          generalize (DataW.map []).put (kl a1) (.held (Value.slice (some ⟨w.heap.size + 1, 0, none⟩) 1 1)) = D at *
          have ho : Hid (∀ ob, (w1.alloc ob).ownsMap Try.prog 9 raw w.heap.size 1 D) := fun ob => hown1.alloc ob
          have k1 : Hid (Maps.size D = 1) := f1
          have k2 : Hid (Maps.has D (kl a1) = true) := f2
          have k3 : Hid (D.atKey (kl a1) (.held (.slice none 0 0)) = .held (.slice (some ⟨w.heap.size + 1, 0, none⟩) 1 1)) := f3
          have kb : Hid (Below w.heap.size w w1) := bel
          have hc2 : ∀ ob, (w1.alloc ob).cell? ⟨w.heap.size + 1, 0, none⟩ = some (.string a2) := fun ob => (World.cell?_alloc_past ob _ _ (by omega)).trans hcell
          clear hcell
          clear f1 f2 f3 hown1 hgrow1 hown bel
          go_wp2_with (fail)
          refine (new_any _ _ _).mono ?_
          rintro e w' ⟨rfl, rfl⟩
          go_wp2_with (fail)
          refine (write_any _ _ _ _ _).mono ?_
          rintro e w' ⟨rfl, rfl⟩
          go_wp2_with (fail)
          refine (status_any _ a0 _ (by simp [go_sem])).mono ?_
          rintro e w' ⟨rfl, rfl⟩
          go_wp2_with (fail)
          refine (header_any _ (some w.heap.size) _ (by simp [go_sem])).mono ?_
          rintro e w' ⟨rfl, rfl⟩
          go_wp2_with (first | (at_len; refine stopHere ?_) | (at_lookup; refine stopHere ?_))
          change wpList _ _ _ _ _ _
          refine wpList_len_own _ rfl _ 30 rfl 9 22 Try.underlying30 raw w.heap.size 1 D rfl ?hown ?_
          case hown => exact ho.out _
          rw [k1.out]
          go_wp2_with (first | (at_lookup; refine stopHere ?_))
          change wpList _ _ _ _ _ _
          refine wpList_look_raw _ rfl _ _ 30 rfl 9 22 law9 Try.underlying30 (zero22 _) w.heap.size 1 D rfl ?hown _ (kl a1) rfl ?hkey _ k3.out true k2.out ?_
          case hown => exact ho.out _
          case hkey => exact key9 hm1.out
          go_wp2
          go_ret
          exact ⟨rfl, kb.out.alloc (by omega) _⟩
end Go.Proofs.Qxb6614936a.fnWriteKeepsStatusAndHeader
