/- Insertion, plainly: an element of a list moves forward over those that are greater. -/
import Derived.Sort.KeysCollected
namespace Go.Proofs.Qxb6616078a

section
variable {α : Type}

/-- The cells while the element at place i is on its way to place j. -/
def sh (L : List α) (i j : Nat) : List α := L.take (j + 1) ++ ((L.drop j).take (i - j) ++ L.drop (i + 1))

theorem sh_start (L : List α) (i : Nat) : sh L i i = L := by
  unfold sh
  rw [Nat.sub_self, List.take_zero, List.nil_append]
  exact List.take_append_drop (i + 1) L

theorem sh_len (L : List α) {i j : Nat} (hj : j ≤ i) (hi : i < L.length) : (sh L i j).length = L.length := by
  unfold sh
  simp
  omega

theorem sh_at (L : List α) {i j k : Nat} (hk : k ≤ j) (hj : j ≤ i) (hi : i < L.length) : (sh L i j)[k]? = L[k]? := by
  unfold sh
  rw [List.getElem?_append_left (by simp; omega), List.getElem?_take, if_pos (by omega)]

theorem take_split (L : List α) {i j : Nat} (hj : j ≤ i) : L.take i = L.take j ++ (L.drop j).take (i - j) := by
  conv => lhs; rw [show i = j + (i - j) by omega]
  rw [List.take_add]

theorem drop_cons (L : List α) {i : Nat} {x : α} (hx : L[i]? = some x) : L.drop i = x :: L.drop (i + 1) := by
  have hi := (List.getElem?_eq_some_iff.1 hx).1
  rw [List.drop_eq_getElem_cons hi]
  congr 1
  exact (List.getElem?_eq_some_iff.1 hx).2

/-- The list with x laid at place j. -/
theorem sh_set (L : List α) {i j : Nat} (x : α) (hj : j ≤ i) (hi : i < L.length) : (sh L i j).set j x = L.take j ++ x :: ((L.drop j).take (i - j) ++ L.drop (i + 1)) := by
  unfold sh
  have hl : j < L.length := by omega
  have e : L.take (j + 1) = L.take j ++ [L[j]] := by
    rw [List.take_add_one, List.getElem?_eq_getElem hl]
    rfl
  rw [e, List.append_assoc, List.set_append_right _ _ (by simp; omega)]
  have : j - (L.take j).length = 0 := by simp; omega
  rw [this]
  rfl

theorem sh_step (L : List α) {i j : Nat} {y : α} (h0 : 0 < j) (hj : j ≤ i) (hi : i < L.length) (hy : L[j - 1]? = some y) : (sh L i j).set j y = sh L i (j - 1) := by
  rw [sh_set L y hj hi]
  unfold sh
  rw [show j - 1 + 1 = j by omega, drop_cons L hy, show i - (j - 1) = (i - j) + 1 by omega, List.take_succ_cons, show j - 1 + 1 = j by omega]
  rfl

theorem ins_perm (L : List α) {i j : Nat} {x : α} (hx : L[i]? = some x) (hj : j ≤ i) : ((sh L i j).set j x).Perm L := by
  have hi := (List.getElem?_eq_some_iff.1 hx).1
  rw [sh_set L x hj hi]
  have e : L = L.take j ++ ((L.drop j).take (i - j) ++ x :: L.drop (i + 1)) := by
    conv => lhs; rw [← List.take_append_drop i L, take_split L hj, drop_cons L hx, List.append_assoc]
  conv => rhs; rw [e]
  exact List.Perm.append_left _ List.perm_middle.symm

theorem ins_sorted (L : List α) (key : α → List UInt8) {i j : Nat} {x : α} (hx : L[i]? = some x) (hj : j ≤ i) (hs : (L.take i).Pairwise fun a b => key a ≤ key b) (hgt : ∀ y ∈ (L.drop j).take (i - j), key x ≤ key y) (hle : ∀ y, 0 < j → L[j - 1]? = some y → key y ≤ key x) :
    (((sh L i j).set j x).take (i + 1)).Pairwise fun a b => key a ≤ key b := by
  have hi := (List.getElem?_eq_some_iff.1 hx).1
  have e : ((sh L i j).set j x).take (i + 1) = L.take j ++ x :: (L.drop j).take (i - j) := by
    rw [sh_set L x hj hi]
    have h1 : L.take j ++ x :: ((L.drop j).take (i - j) ++ L.drop (i + 1)) = (L.take j ++ x :: (L.drop j).take (i - j)) ++ L.drop (i + 1) := by simp
    rw [h1, List.take_append_of_le_length (by simp; omega), List.take_of_length_le (by simp; omega)]
  rw [e]
  rw [take_split L hj] at hs
  obtain ⟨s1, s2, s3⟩ := List.pairwise_append.1 hs
  refine List.pairwise_append.2 ⟨s1, List.pairwise_cons.2 ⟨hgt, s2⟩, fun a ha b hb => ?_⟩
  have hax : key a ≤ key x := by
    have h0 : 0 < j := by
      rcases Nat.eq_zero_or_pos j with h | h
      · subst h; simp at ha
      · exact h
    have hl : j - 1 < L.length := by omega
    have hlast := hle _ h0 (List.getElem?_eq_getElem hl)
    obtain ⟨k, hk, rfl⟩ := List.getElem_of_mem ha
    have hk' : k < j := by simp at hk; omega
    rw [List.getElem_take]
    rcases Nat.lt_or_ge k (j - 1) with hlt | hge
    · have := List.pairwise_iff_getElem.1 s1 k (j - 1) hk (by simp; omega) hlt
      rw [List.getElem_take, List.getElem_take] at this
      exact List.le_trans this hlast
    · have ek : k = j - 1 := by omega
      subst ek
      exact hlast
  rcases List.mem_cons.1 hb with rfl | hb
  · exact hax
  · exact List.le_trans hax (hgt b hb)

theorem sorted_one (L : List α) (key : α → List UInt8) : (L.take 1).Pairwise fun a b => key a ≤ key b := by
  cases L with
  | nil => simp
  | cons a r => simp
end

/-- The sorted list is one. -/
theorem sorted_eq {ss L : List (List UInt8)} (hp : L.Perm ss) (hs : L.Pairwise fun a b => a ≤ b) : L = ss.mergeSort Go.leB := by
  have tr : ∀ a b c : List UInt8, Go.leB a b = true → Go.leB b c = true → Go.leB a c = true := fun a b c h1 h2 => by
    simp only [Go.leB, decide_eq_true_eq] at *
    exact List.le_trans h1 h2
  have to : ∀ a b : List UInt8, (Go.leB a b || Go.leB b a) = true := fun a b => by
    simp only [Go.leB, Bool.or_eq_true, decide_eq_true_eq]
    exact List.le_total a b
  have h2 := List.pairwise_mergeSort tr to ss
  refine List.Perm.eq_of_pairwise (le := fun a b => a ≤ b) (fun a b _ _ h1 h2 => List.le_antisymm h1 h2) hs ?_ (hp.trans (List.mergeSort_perm ss Go.leB).symm)
  refine List.Pairwise.imp_of_mem (fun {a b} _ _ h => ?_) h2
  simpa [Go.leB] using h
end Go.Proofs.Qxb6616078a
