/- zzBytes of the header law: it returns some bool, whatever it is given. -/
import Derived.Test.Qxb6614936aStrs
namespace Go.Proofs.Qxb6614936a
open Go.ChangeShapes Go.WideShapes Go.ChangeAt Go.RowKit
set_option linter.unusedVariables false

/-- Every row before 'n' is short. -/
def Short (rows : List (Value × List ByteArray)) (n : Nat) : Prop := ∀ i, i < n → (rows.getD i (.bool false, [])).2.length ≤ 1048576

/-- It returned a bool; where that is true, every row is short. -/
def SomeBool (e : Ending) (rows : List (Value × List ByteArray)) (n : Nat) : Prop := ∃ b, e = .returned (.bool b) ∧ (b = true → Short rows n)

theorem Short.step {rows : List (Value × List ByteArray)} {n : Nat} (h : Short rows n) {li : Nat} (e : (rows.getD n (.bool false, [])).2.length = li) (hl : (li : Int) ≤ 1048576) : Short rows (n + 1) := by
  intro i hi
  by_cases c : i = n
  · subst c
    omega
  · exact h i (by omega)

set_option maxRecDepth 100000 in
set_option maxHeartbeats 4000000 in
theorem bytes7 (a0 : Option Addr) (len0 cap0 : Nat) (keys : List ByteArray) (a1 : Option Addr) (len1 cap1 : Nat) (rows : List (Value × List ByteArray)) (st : Int) (k : ByteArray) (a4 : Option Addr) (len4 cap4 : Nat) (vs : List ByteArray) (w : World)
    (h0 : StrsAt w a0 len0 keys) (h1 : RowsAt w a1 len1 rows) (hk : k.size ≤ maxLen) (h4 : StrsAt w a4 len4 vs) :
    Calls Try.prog 7 #[.slice a0 len0 cap0, .slice a1 len1 cap1, .int .i64 st, .string k, .slice a4 len4 cap4] w fun e w' => SomeBool e rows len1 ∧ w = w' := by
  have l0 := h0.2.1
  have l1 := h1.2.1
  have l4 := h4.2.1
  unfold maxLen at l0 l1 l4 hk
  have H0 : Hid (StrsAt w a0 len0 keys) := h0
  have H1 : Hid (RowsAt w a1 len1 rows) := h1
  have H4 : Hid (StrsAt w a4 len4 vs) := h4
  clear h0 h1 h4
  go_enter Try.func7, Try.ntmps7
  go_wp2
  any_goals (go_ret; exact ⟨⟨false, rfl, fun h => by cases h⟩, rfl⟩)
  go_loop [11, 12] (fun z i => ∃ (x : Int) (n : Nat), n ≤ len0 ∧ i = .int .i64 n ∧ z = .int .i64 x) (fun _ i => len0 - (intOf i).toNat)
  case atStart => exact ⟨_, 0, Nat.zero_le _, rfl, rfl⟩
  case round =>
    obtain ⟨x, n, hn, rfl, rfl⟩ := hrel
    by_cases hlt : n < len0
    · obtain ⟨b, off, rfl, hc, hs⟩ := H0.out.str hlt
      generalize keys.getD n ByteArray.empty = s at *
      unfold maxLen at hs
      go_wp2
      any_goals (go_ret; exact ⟨⟨false, rfl, fun h => by cases h⟩, rfl⟩)
      go_round
      case rel => exact ⟨_, n + 1, by omega, by go_num, rfl⟩
      case measure => simp [intOf]; omega
    · go_wp2
      any_goals (go_ret; exact ⟨⟨false, rfl, fun h => by cases h⟩, rfl⟩)
      go_loop [11, 13, 14] (fun z i _j => ∃ (x : Int) (n : Nat), n ≤ len1 ∧ Hid (Short rows n) ∧ i = .int .i64 n ∧ z = .int .i64 x) (fun _ i _ => len1 - (intOf i).toNat)
      case atStart => exact ⟨_, 0, Nat.zero_le _, (fun i hi => by omega), rfl, rfl⟩
      case round =>
        obtain ⟨y, m, hm, HS, rfl, rfl⟩ := hrel
        by_cases hlt1 : m < len1
        · obtain ⟨b, off, ai, li, ci, rfl, hc, hrow⟩ := H1.out.row hlt1
          have hrl := hrow.2.1
          unfold maxLen at hrl
          have HR : Hid (StrsAt w ai li (rows.getD m (.bool false, [])).2) := hrow
          clear hrow
          go_wp2
          any_goals (go_ret; exact ⟨⟨false, rfl, fun h => by cases h⟩, rfl⟩)
          go_loop [11, 14] (fun z i => ∃ (x : Int) (n : Nat), n ≤ li ∧ i = .int .i64 n ∧ z = .int .i64 x) (fun _ i => li - (intOf i).toNat)
          case atStart => exact ⟨_, 0, Nat.zero_le _, rfl, rfl⟩
          case round =>
            obtain ⟨x2, p, hp, rfl, rfl⟩ := hrel
            by_cases hlt2 : p < li
            · obtain ⟨b2, off2, rfl, hc2, hs2⟩ := HR.out.str hlt2
              generalize ((rows.getD m (.bool false, [])).2).getD p ByteArray.empty = s at *
              unfold maxLen at hs2
              go_wp2
              any_goals (go_ret; exact ⟨⟨false, rfl, fun h => by cases h⟩, rfl⟩)
              go_round
              case rel => exact ⟨_, p + 1, by omega, by go_num, rfl⟩
              case measure => simp [intOf]; omega
            · have hli : (li : Int) ≤ 1048576 := by assumption
              have HS' : Hid (Short rows (m + 1)) := HS.out.step HR.out.1 hli
              clear HR HS
              go_wp2
              go_round
              case rel => exact ⟨_, m + 1, by omega, HS', by go_num, rfl⟩
              case measure => simp [intOf]; omega
        · have HS' : Hid (Short rows len1) := fun i hi => HS.out i (by omega)
          clear HS
          go_wp2
          any_goals (go_ret; exact ⟨⟨false, rfl, fun h => by cases h⟩, rfl⟩)
          go_loop [11, 15] (fun z i => ∃ (x : Int) (n : Nat), n ≤ len4 ∧ i = .int .i64 n ∧ z = .int .i64 x) (fun _ i => len4 - (intOf i).toNat)
          case atStart => exact ⟨_, 0, Nat.zero_le _, rfl, rfl⟩
          case round =>
            obtain ⟨x2, p, hp, rfl, rfl⟩ := hrel
            by_cases hlt2 : p < len4
            · obtain ⟨b2, off2, rfl, hc2, hs2⟩ := H4.out.str hlt2
              generalize vs.getD p ByteArray.empty = s at *
              unfold maxLen at hs2
              go_wp2
              any_goals (go_ret; exact ⟨⟨false, rfl, fun h => by cases h⟩, rfl⟩)
              go_round
              case rel => exact ⟨_, p + 1, by omega, by go_num, rfl⟩
              case measure => simp [intOf]; omega
            · go_wp2
              go_ret
              exact ⟨⟨true, rfl, fun _ => HS'.out⟩, rfl⟩
end Go.Proofs.Qxb6614936a
