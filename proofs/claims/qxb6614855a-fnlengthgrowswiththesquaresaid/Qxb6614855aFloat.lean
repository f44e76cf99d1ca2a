/-
  Plain mathematics for the two laws on 'length': the nearest double of a whole number, the square root of a double, both monotone;
  the root of the double nearest to a square is the double of the square's side. Nothing of the program is in sight here.
-/
import Ieee.Arith
namespace Go.Proofs.Qxb6614855a.Fl
open Ieee

/-- 'n / g' to the nearest whole number, ties to even. -/
def rne (n g : Nat) : Nat := n / g + (decide (g < 2 * (n % g)) || (g == 2 * (n % g) && n / g % 2 == 1)).toNat

theorem rne_lo (n g : Nat) : n / g ≤ rne n g := by unfold rne; omega
theorem rne_hi (n g : Nat) : rne n g ≤ n / g + 1 := by
  unfold rne
  have := Bool.toNat_le (decide (g < 2 * (n % g)) || (g == 2 * (n % g) && n / g % 2 == 1))
  omega

theorem rne_mono {n m g : Nat} (h : n ≤ m) : rne n g ≤ rne m g := by
  rcases Nat.lt_or_ge (n / g) (m / g) with hl | hl
  · have := rne_hi n g
    have := rne_lo m g
    omega
  · have hle : n / g ≤ m / g := Nat.div_le_div_right h
    have he : n / g = m / g := Nat.le_antisymm hle hl
    have e1 := Nat.div_add_mod n g
    have e2 := Nat.div_add_mod m g
    have hr : n % g ≤ m % g := by rw [he] at e1; omega
    unfold rne
    rw [he]
    refine Nat.add_le_add_left ?_ _
    by_cases a : g < 2 * (m % g)
    · have : (decide (g < 2 * (m % g)) || (g == 2 * (m % g) && m / g % 2 == 1)) = true := by simp [a]
      rw [this]
      exact Bool.toNat_le _
    · by_cases b : g = 2 * (n % g)
      · have : n % g = m % g := by omega
        rw [this]
        exact Nat.le_refl _
      · have hb : (decide (g < 2 * (n % g)) || (g == 2 * (n % g) && m / g % 2 == 1)) = false := by
          have c : ¬ g < 2 * (n % g) := by omega
          have d : (g == 2 * (n % g)) = false := by simpa using b
          rw [d]
          simpa using c
        rw [hb]
        exact Nat.zero_le _

theorem rne_mul (q g : Nat) (hg : 0 < g) : rne (q * g) g = q := by
  unfold rne
  have h1 : q * g % g = 0 := Nat.mul_mod_left q g
  have h2 : q * g / g = q := Nat.mul_div_cancel q hg
  rw [h1, h2]
  have : (g == 2 * 0) = false := by simp; omega
  rw [this]
  simp

/-- Close to a whole even number of units, on either side by less than half a unit (half a unit itself is let). -/
theorem rne_near (q g n : Nat) (hg : 0 < g) (he : q % 2 = 0) (h1 : 2 * q * g ≤ 2 * n + g) (h2 : 2 * n ≤ 2 * q * g + g) : rne n g = q := by
  rcases Nat.lt_or_ge n (q * g) with hl | hl
  · -- just below
    have hq : 0 < q := by
      rcases Nat.eq_zero_or_pos q with e | e
      · subst e; omega
      · exact e
    obtain ⟨r, hr⟩ : ∃ r, q = r + 1 := ⟨q - 1, by omega⟩
    subst hr
    have e0 : (r + 1) * g = r * g + g := Nat.succ_mul r g
    have e1 : 2 * (r + 1) * g = 2 * (r * g) + 2 * g := by rw [Nat.mul_assoc, e0, Nat.mul_add]
    have ediv : n / g = r := by
      refine Nat.div_eq_of_lt_le ?_ ?_
      · omega
      · rw [e0]; omega
    have emod : n % g = n - r * g := by
      have := Nat.div_add_mod n g
      rw [ediv, Nat.mul_comm] at this
      omega
    unfold rne
    rw [ediv, emod]
    have hodd : (r % 2 == 1) = true := by simp; omega
    rw [hodd]
    by_cases c : g < 2 * (n - r * g)
    · simp [c]
    · have : (g == 2 * (n - r * g)) = true := by simp; omega
      rw [this]
      simp
  · have ediv : n / g = q := by
      refine Nat.div_eq_of_lt_le ?_ ?_
      · omega
      · have e0 : (q + 1) * g = q * g + g := Nat.succ_mul q g
        have e1 : 2 * q * g = 2 * (q * g) := Nat.mul_assoc 2 q g
        rw [e0]; omega
    have emod : n % g = n - q * g := by
      have := Nat.div_add_mod n g
      rw [ediv, Nat.mul_comm] at this
      omega
    have e1 : 2 * q * g = 2 * (q * g) := Nat.mul_assoc 2 q g
    unfold rne
    rw [ediv, emod]
    have hodd : (q % 2 == 1) = false := by simp; omega
    rw [hodd]
    have c : ¬ g < 2 * (n - q * g) := by omega
    simp [c]

/-- The error of rounding: at most half a unit. -/
theorem rne_err (n g : Nat) (hg : 0 < g) : 2 * (rne n g * g) ≤ 2 * n + g ∧ 2 * n ≤ 2 * (rne n g * g) + g := by
  have e := Nat.div_add_mod n g
  have hm := Nat.mod_lt n hg
  rw [Nat.mul_comm] at e
  unfold rne
  by_cases c : g < 2 * (n % g)
  · have : (decide (g < 2 * (n % g)) || (g == 2 * (n % g) && n / g % 2 == 1)) = true := by simp [c]
    rw [this, Nat.add_mul]
    simp only [Bool.toNat_true, Nat.one_mul]
    omega
  · by_cases d : (g == 2 * (n % g) && n / g % 2 == 1) = true
    · have : (decide (g < 2 * (n % g)) || (g == 2 * (n % g) && n / g % 2 == 1)) = true := by simp [d]
      rw [this, Nat.add_mul]
      have hh : g = 2 * (n % g) := by
        rw [Bool.and_eq_true] at d
        exact eq_of_beq d.1
      simp only [Bool.toNat_true, Nat.one_mul]
      omega
    · have : (decide (g < 2 * (n % g)) || (g == 2 * (n % g) && n / g % 2 == 1)) = false := by
        rw [Bool.or_eq_false_iff]
        exact ⟨by simpa using c, by simpa using d⟩
      rw [this]
      simp only [Bool.toNat_false, Nat.add_zero]
      omega

theorem cut_rne (b : Bool) (n drop : Nat) (h : drop ≤ n.log2 + 2) : Toward.even.cut b n drop = rne n (2 ^ drop) := by
  unfold Toward.cut rne
  simp only [Nat.min_eq_left h, Nat.shiftLeft_eq, Nat.one_mul]

/-- The kept digits of 'n': between 2^52 and 2^53. -/
def kept (n : Nat) : Nat := if n.log2 ≤ 52 then n * 2 ^ (52 - n.log2) else rne n (2 ^ (n.log2 - 52))

theorem kept_lo (n : Nat) (h : n ≠ 0) : 2 ^ 52 ≤ kept n := by
  have hl := (Nat.log2_eq_iff h (k := n.log2)).1 rfl
  unfold kept
  split
  · rename_i c
    calc 2 ^ 52 = 2 ^ n.log2 * 2 ^ (52 - n.log2) := by rw [← Nat.pow_add]; congr 1; omega
      _ ≤ n * 2 ^ (52 - n.log2) := Nat.mul_le_mul_right _ hl.1
  · rename_i c
    refine Nat.le_trans ?_ (rne_lo _ _)
    rw [Nat.le_div_iff_mul_le (Nat.two_pow_pos _), ← Nat.pow_add]
    have : 52 + (n.log2 - 52) = n.log2 := by omega
    rw [this]
    exact hl.1

theorem kept_hi (n : Nat) (h : n ≠ 0) : kept n ≤ 2 ^ 53 := by
  have hl := (Nat.log2_eq_iff h (k := n.log2)).1 rfl
  unfold kept
  split
  · rename_i c
    calc n * 2 ^ (52 - n.log2) ≤ 2 ^ (n.log2 + 1) * 2 ^ (52 - n.log2) := Nat.mul_le_mul_right _ (Nat.le_of_lt hl.2)
      _ = 2 ^ 53 := by rw [← Nat.pow_add]; congr 1; omega
  · rename_i c
    have := rne_mono (g := 2 ^ (n.log2 - 52)) (Nat.le_of_lt hl.2)
    refine Nat.le_trans this ?_
    have e : 2 ^ (n.log2 + 1) = 2 ^ 53 * 2 ^ (n.log2 - 52) := by rw [← Nat.pow_add]; congr 1; omega
    rw [e, rne_mul _ _ (Nat.two_pow_pos _)]
    exact Nat.le_refl _

theorem kept_mono {n m : Nat} (h : n ≤ m) (hl : n.log2 = m.log2) : kept n ≤ kept m := by
  unfold kept
  rw [hl]
  split
  · exact Nat.mul_le_mul_right _ h
  · exact rne_mono h

/-- The rung of 'n * 2 ^ place', of a normal double. -/
def rung (n : Nat) (place : Int) : Nat := (place + n.log2 + 1022).toNat * 2 ^ 52 + kept n

theorem rung_mono {n m : Nat} (hn : n ≠ 0) (h : n ≤ m) (place : Int) (hp : -1022 ≤ place) : rung n place ≤ rung m place := by
  have hm : m ≠ 0 := by omega
  unfold rung
  rcases Nat.lt_or_ge n.log2 m.log2 with c | c
  · have h1 := kept_hi n hn
    have h2 := kept_lo m hm
    have h3 : (place + n.log2 + 1022).toNat + 1 ≤ (place + m.log2 + 1022).toNat := by omega
    have h4 := Nat.mul_le_mul_right (2 ^ 52) h3
    omega
  · have h1 : n.log2 ≤ m.log2 := (Nat.le_log2 hm).2 (Nat.le_trans ((Nat.log2_eq_iff hn (k := n.log2)).1 rfl).1 h)
    have h2 : n.log2 = m.log2 := by omega
    have h3 := kept_mono h h2
    rw [h2]
    omega

theorem nearest_rung (n : Nat) (place : Int) (hn : n ≠ 0) (h1 : -1022 ≤ place + n.log2) (h2 : place + n.log2 ≤ 1000) : double.nearest false n place = rung n place := by
  have hk := kept_hi n hn
  unfold Format.nearest
  rw [if_neg hn]
  have elp : double.leastPlace = -1074 := by decide
  have efb : (double.fractionBits : Int) = 52 := rfl
  have ebi : double.binade = 2 ^ 52 := rfl
  have einf : double.infRung = 2047 * 2 ^ 52 := by decide
  have emax : max (place + (n.log2 : Int) - (double.fractionBits : Int)) (-1074) = place + (n.log2 : Int) - 52 := by rw [efb]; omega
  simp only [elp, emax, ebi, einf]
  have ek : Toward.even.cut false (n <<< (place - (place + (n.log2 : Int) - 52)).toNat) (place + (n.log2 : Int) - 52 - place).toNat = kept n := by
    unfold kept
    have e1 : (place - (place + (n.log2 : Int) - 52)).toNat = 52 - n.log2 := by omega
    have e2 : (place + (n.log2 : Int) - 52 - place).toNat = n.log2 - 52 := by omega
    rw [e1, e2, Nat.shiftLeft_eq]
    split
    · rename_i c
      have e3 : n.log2 - 52 = 0 := by omega
      rw [e3, cut_rne _ _ _ (Nat.zero_le _)]
      have := rne_mul (n * 2 ^ (52 - n.log2)) 1 (by omega)
      rw [Nat.mul_one] at this
      exact this
    · rename_i c
      have e3 : 52 - n.log2 = 0 := by omega
      rw [e3, Nat.pow_zero, Nat.mul_one]
      exact cut_rne _ _ _ (by omega)
  rw [ek]
  have e4 : (place + (n.log2 : Int) - 52 - -1074).toNat = (place + n.log2 + 1022).toNat := by omega
  rw [e4]
  have e5 : (place + n.log2 + 1022).toNat ≤ 2022 := by omega
  unfold rung
  generalize (place + (n.log2 : Int) + 1022).toNat = e at *
  generalize kept n = k at *
  have : e * 2 ^ 52 + k ≤ 2047 * 2 ^ 52 := by omega
  rw [Nat.min_eq_left this]
  rfl


/-- What a normal, positive double stands for. -/
theorem read_normal (x : Nat) (h1 : 2 ^ 52 ≤ x) (h2 : x < 2047 * 2 ^ 52) : double.read x = .number false (2 ^ 52 + x % 2 ^ 52) (-1074 + (x / 2 ^ 52 - 1 : Nat)) := by
  have elp : double.leastPlace = -1074 := by decide
  have ebi : double.binade = 2 ^ 52 := rfl
  have einf : double.infRung = 2047 * 2 ^ 52 := by decide
  have esw : double.signWeight = 2 ^ 63 := rfl
  have e1 : x / 2 ^ 63 = 0 := Nat.div_eq_of_lt (by omega)
  have e2 : x % 2 ^ 63 = x := Nat.mod_eq_of_lt (by omega)
  unfold Format.read
  simp only [elp, ebi, einf, esw, e1, e2]
  rw [if_neg (by omega), if_pos h2]
  rfl

/-- Of two normal, positive doubles the words' order is the numbers'. -/
theorem order_normal (x y : Nat) (hx : 2 ^ 52 ≤ x) (hx2 : x < 2047 * 2 ^ 52) (hy : 2 ^ 52 ≤ y) (hy2 : y < 2047 * 2 ^ 52) : double.order x y = some (compare x y) := by
  unfold Format.order
  rw [read_normal x hx hx2, read_normal y hy hy2]
  simp only [Datum.order, signed, Nat.shiftLeft_eq, Bool.false_eq_true, if_false, Option.some.injEq]
  have dx := Nat.div_add_mod x (2 ^ 52)
  have dy := Nat.div_add_mod y (2 ^ 52)
  have mx := Nat.mod_lt x (Nat.two_pow_pos 52)
  have my := Nat.mod_lt y (Nat.two_pow_pos 52)
  generalize ex : x / 2 ^ 52 = X at *
  generalize ey : y / 2 ^ 52 = Y at *
  generalize fx : x % 2 ^ 52 = A at *
  generalize fy : y % 2 ^ 52 = B at *
  have hX : 1 ≤ X := by omega
  have hY : 1 ≤ Y := by omega
  rcases Nat.lt_trichotomy X Y with c | c | c
  · have e1 : ((-1074 : Int) + (X - 1 : Nat) - min (-1074 + ((X - 1 : Nat) : Int)) (-1074 + ((Y - 1 : Nat) : Int))).toNat = 0 := by omega
    have e2 : ((-1074 : Int) + (Y - 1 : Nat) - min (-1074 + ((X - 1 : Nat) : Int)) (-1074 + ((Y - 1 : Nat) : Int))).toNat = (Y - X - 1) + 1 := by omega
    rw [e1, e2]
    have h3 : (2 ^ 52 + A) * 2 ^ 0 < (2 ^ 52 + B) * 2 ^ (Y - X - 1 + 1) := by
      rw [Nat.pow_succ (m := Y - X - 1), ← Nat.mul_assoc, Nat.pow_zero, Nat.mul_one]
      have := Nat.mul_le_mul (Nat.le_add_right (2 ^ 52) B) (Nat.two_pow_pos (Y - X - 1))
      omega
    have h4 : x < y := by
      have := Nat.mul_le_mul_left (2 ^ 52) c
      omega
    rw [Nat.compare_eq_lt.2 h4]
    exact Int.compare_eq_lt.2 (by exact_mod_cast h3)
  · subst c
    have e1 : ((-1074 : Int) + (X - 1 : Nat) - min (-1074 + ((X - 1 : Nat) : Int)) (-1074 + ((X - 1 : Nat) : Int))).toNat = 0 := by omega
    rw [e1, Nat.pow_zero, Nat.mul_one, Nat.mul_one]
    rcases Nat.lt_trichotomy A B with d | d | d
    · rw [Nat.compare_eq_lt.2 (by omega : x < y)]
      exact Int.compare_eq_lt.2 (by omega)
    · rw [Nat.compare_eq_eq.2 (by omega : x = y)]
      exact Int.compare_eq_eq.2 (by omega)
    · rw [Nat.compare_eq_gt.2 (by omega : y < x)]
      exact Int.compare_eq_gt.2 (by omega)
  · have e1 : ((-1074 : Int) + (Y - 1 : Nat) - min (-1074 + ((X - 1 : Nat) : Int)) (-1074 + ((Y - 1 : Nat) : Int))).toNat = 0 := by omega
    have e2 : ((-1074 : Int) + (X - 1 : Nat) - min (-1074 + ((X - 1 : Nat) : Int)) (-1074 + ((Y - 1 : Nat) : Int))).toNat = (X - Y - 1) + 1 := by omega
    rw [e1, e2]
    have h3 : (2 ^ 52 + B) * 2 ^ 0 < (2 ^ 52 + A) * 2 ^ (X - Y - 1 + 1) := by
      rw [Nat.pow_succ (m := X - Y - 1), ← Nat.mul_assoc, Nat.pow_zero, Nat.mul_one]
      have := Nat.mul_le_mul (Nat.le_add_right (2 ^ 52) A) (Nat.two_pow_pos (X - Y - 1))
      omega
    have h4 : y < x := by
      have := Nat.mul_le_mul_left (2 ^ 52) c
      omega
    rw [Nat.compare_eq_gt.2 h4]
    exact Int.compare_eq_gt.2 (by exact_mod_cast h3)


theorem rung_lo (n : Nat) (place : Int) (hn : n ≠ 0) : 2 ^ 52 ≤ rung n place := by
  have := kept_lo n hn
  unfold rung
  omega

theorem rung_hi (n : Nat) (place : Int) (hn : n ≠ 0) (h2 : place + n.log2 ≤ 1000) : rung n place < 2047 * 2 ^ 52 := by
  have := kept_hi n hn
  unfold rung
  have e5 : (place + n.log2 + 1022).toNat ≤ 2022 := by omega
  generalize (place + (n.log2 : Int) + 1022).toNat = e at *
  generalize kept n = k at *
  omega

/-! ### The square root -/

theorem rootFrom_spec (n : Nat) : ∀ (todo root : Nat), root * root ≤ n → n < (root + 2 ^ todo) * (root + 2 ^ todo) → Datum.rootFrom n todo root * Datum.rootFrom n todo root ≤ n ∧ n < (Datum.rootFrom n todo root + 1) * (Datum.rootFrom n todo root + 1)
  | 0, root, h1, h2 => by
    rw [Nat.pow_zero] at h2
    exact ⟨h1, h2⟩
  | todo + 1, root, h1, h2 => by
    unfold Datum.rootFrom
    simp only [Nat.shiftLeft_eq, Nat.one_mul]
    split
    · rename_i c
      refine rootFrom_spec n todo _ c ?_
      have e : root + 2 ^ todo + 2 ^ todo = root + 2 ^ (todo + 1) := by rw [Nat.pow_succ]; omega
      rw [e]
      exact h2
    · rename_i c
      exact rootFrom_spec n todo _ h1 (by omega)

/-- The whole root. -/
def whole (n : Nat) : Nat := Datum.rootFrom n (n.log2 / 2 + 1) 0

theorem whole_spec (n : Nat) (hn : n ≠ 0) : whole n * whole n ≤ n ∧ n < (whole n + 1) * (whole n + 1) := by
  refine rootFrom_spec n _ 0 (Nat.zero_le _) ?_
  rw [Nat.zero_add, ← Nat.pow_add]
  have := ((Nat.log2_eq_iff hn (k := n.log2)).1 rfl).2
  refine Nat.lt_of_lt_of_le this (Nat.pow_le_pow_right (by omega) (by omega))

/-- The root with its digit for 'not the whole root'. -/
def sticky (n : Nat) : Nat := 2 * whole n + (whole n * whole n != n).toNat

theorem whole_mono {n m : Nat} (hn : n ≠ 0) (h : n ≤ m) : whole n ≤ whole m := by
  have a := whole_spec n hn
  have b := whole_spec m (by omega)
  rcases Nat.lt_or_ge (whole m) (whole n) with c | c
  · have := Nat.mul_le_mul (show whole m + 1 ≤ whole n by omega) (show whole m + 1 ≤ whole n by omega)
    omega
  · exact c

theorem sticky_mono {n m : Nat} (hn : n ≠ 0) (h : n ≤ m) : sticky n ≤ sticky m := by
  have a := whole_spec n hn
  have b := whole_spec m (by omega)
  have c := whole_mono hn h
  unfold sticky
  have t1 := Bool.toNat_le (whole n * whole n != n)
  rcases Nat.lt_or_ge (whole n) (whole m) with d | d
  · omega
  · have e : whole n = whole m := by omega
    rw [e] at a
    rw [e]
    refine Nat.add_le_add_left ?_ _
    by_cases f : whole m * whole m = m
    · have : whole m * whole m = n := by omega
      have g : (whole m * whole m != n) = false := by simp [this]
      rw [g]
      exact Nat.zero_le _
    · have g : (whole m * whole m != m) = true := by simpa using f
      rw [g]
      exact Bool.toNat_le _

/-- The root of a normal double, as a rung: its exponent field is 'E', its fraction 'f'. -/
def sqrtRung (E f : Nat) : Nat := rung (sticky ((2 ^ 52 + f) * 2 ^ (56 + (E + 1) % 2))) (((E : Int) - 1075) / 2 - 29)

theorem log2_sticky (E f : Nat) (hf : f < 2 ^ 52) : (sticky ((2 ^ 52 + f) * 2 ^ (56 + (E + 1) % 2))).log2 = 55 ∧ sticky ((2 ^ 52 + f) * 2 ^ (56 + (E + 1) % 2)) ≠ 0 := by
  generalize hn : (2 ^ 52 + f) * 2 ^ (56 + (E + 1) % 2) = n
  have h1 : 2 ^ 108 ≤ n ∧ n < 2 ^ 110 := by
    rcases Nat.mod_two_eq_zero_or_one (E + 1) with c | c
    · rw [c] at hn; omega
    · rw [c] at hn; omega
  have a := whole_spec n (by omega)
  have h2 : 2 ^ 54 ≤ whole n := by
    rcases Nat.lt_or_ge (whole n) (2 ^ 54) with c | c
    · have := Nat.mul_le_mul (show whole n + 1 ≤ 2 ^ 54 by omega) (show whole n + 1 ≤ 2 ^ 54 by omega)
      omega
    · exact c
  have h3 : whole n < 2 ^ 55 := by
    rcases Nat.lt_or_ge (whole n) (2 ^ 55) with c | c
    · exact c
    · have := Nat.mul_le_mul c c
      omega
  have h4 : 2 ^ 55 ≤ sticky n ∧ sticky n < 2 ^ 56 := by
    unfold sticky
    have := Bool.toNat_le (whole n * whole n != n)
    omega
  have h5 : sticky n ≠ 0 := by omega
  exact ⟨(Nat.log2_eq_iff h5).2 h4, h5⟩

theorem sqrt_normal (x : Nat) (h1 : 2 ^ 52 ≤ x) (h2 : x < 2047 * 2 ^ 52) : double.sqrt x = some (sqrtRung (x / 2 ^ 52) (x % 2 ^ 52)) := by
  unfold Format.sqrt
  rw [read_normal x h1 h2]
  have hf := Nat.mod_lt x (Nat.two_pow_pos 52)
  have hE1 : 1 ≤ x / 2 ^ 52 := by omega
  have hE2 : x / 2 ^ 52 < 2047 := by omega
  generalize x / 2 ^ 52 = E at *
  generalize x % 2 ^ 52 = f at *
  have efb : double.fractionBits = 52 := rfl
  have hm : 2 ^ 52 + f ≠ 0 := by omega
  have hlog : (2 ^ 52 + f).log2 = 52 := (Nat.log2_eq_iff hm).2 (by omega)
  unfold Datum.root
  simp only [if_neg hm, Bool.false_eq_true, if_false, hlog, efb]
  have emore : 2 * (52 + 2) - 52 + (((-1074 : Int) + (E - 1 : Nat) - ((2 * (52 + 2) - 52 : Nat) : Int)) % 2).toNat = 56 + (E + 1) % 2 := by omega
  rw [emore]
  simp only [Nat.shiftLeft_eq, Option.map_some, Option.some.injEq]
  have epl : ((-1074 : Int) + (E - 1 : Nat) - ((56 + (E + 1) % 2 : Nat) : Int)) / 2 - 1 = ((E : Int) - 1075) / 2 - 29 := by omega
  rw [epl]
  obtain ⟨l1, l2⟩ := log2_sticky E f hf
  unfold sqrtRung
  show double.nearest false (sticky ((2 ^ 52 + f) * 2 ^ (56 + (E + 1) % 2))) (((E : Int) - 1075) / 2 - 29) = _
  refine nearest_rung _ _ l2 ?_ ?_
  · rw [l1]; omega
  · rw [l1]; omega

theorem sqrt_mono (x y : Nat) (h1 : 2 ^ 52 ≤ x) (h : x ≤ y) : sqrtRung (x / 2 ^ 52) (x % 2 ^ 52) ≤ sqrtRung (y / 2 ^ 52) (y % 2 ^ 52) := by
  have hf := Nat.mod_lt x (Nat.two_pow_pos 52)
  have hg := Nat.mod_lt y (Nat.two_pow_pos 52)
  have dx := Nat.div_add_mod x (2 ^ 52)
  have dy := Nat.div_add_mod y (2 ^ 52)
  have hE1 : 1 ≤ x / 2 ^ 52 := by omega
  generalize x / 2 ^ 52 = E at *
  generalize x % 2 ^ 52 = f at *
  generalize y / 2 ^ 52 = G at *
  generalize y % 2 ^ 52 = g at *
  have hEG : E ≤ G := by omega
  obtain ⟨l1, l2⟩ := log2_sticky E f hf
  obtain ⟨k1, k2⟩ := log2_sticky G g hg
  by_cases c : ((E : Int) - 1075) / 2 = ((G : Int) - 1075) / 2
  · unfold sqrtRung
    rw [c]
    refine rung_mono l2 (sticky_mono ?_ ?_) _ (by omega)
    · exact Nat.ne_of_gt (Nat.mul_pos (by omega) (Nat.two_pow_pos _))
    · rcases Nat.mod_two_eq_zero_or_one (E + 1) with a | a
      · rcases Nat.mod_two_eq_zero_or_one (G + 1) with b | b
        · rw [a, b]; omega
        · rw [a, b]; omega
      · rcases Nat.mod_two_eq_zero_or_one (G + 1) with b | b
        · omega
        · rw [a, b]; omega
  · have a1 := kept_hi _ l2
    have a2 := kept_lo _ k2
    unfold sqrtRung rung
    rw [l1, k1]
    generalize kept (sticky ((2 ^ 52 + f) * 2 ^ (56 + (E + 1) % 2))) = u at *
    generalize kept (sticky ((2 ^ 52 + g) * 2 ^ (56 + (G + 1) % 2))) = v at *
    have e1 : (((E : Int) - 1075) / 2 - 29 + ((55 : Nat) : Int) + 1022).toNat + 1 ≤ (((G : Int) - 1075) / 2 - 29 + ((55 : Nat) : Int) + 1022).toNat := by omega
    generalize (((E : Int) - 1075) / 2 - 29 + ((55 : Nat) : Int) + 1022).toNat = p at *
    generalize (((G : Int) - 1075) / 2 - 29 + ((55 : Nat) : Int) + 1022).toNat = q at *
    omega


/-! ### The root of the double nearest to a square -/

theorem sticky_square (T : Nat) (hT : T ≠ 0) : sticky (T * T) = 2 * T := by
  have hp : T * T ≠ 0 := Nat.ne_of_gt (Nat.mul_pos (by omega) (by omega))
  have a := whole_spec (T * T) hp
  have e : whole (T * T) = T := by
    rcases Nat.lt_trichotomy (whole (T * T)) T with c | c | c
    · have := Nat.mul_le_mul (show whole (T * T) + 1 ≤ T by omega) (show whole (T * T) + 1 ≤ T by omega)
      omega
    · exact c
    · have := Nat.mul_le_mul (show T + 1 ≤ whole (T * T) by omega) (show T + 1 ≤ whole (T * T) by omega)
      have e2 : (T + 1) * (T + 1) = T * T + T + T + 1 := by rw [Nat.add_mul, Nat.mul_add]; omega
      omega
  unfold sticky
  rw [e]
  simp

theorem sticky_near (T n : Nat) (hn : n ≠ 0) (hT : 2 ^ 54 + 2 ≤ T) (h1 : n ≤ T * T + 2 ^ 56) (h2 : T * T ≤ n + 2 ^ 56) : 2 * T ≤ sticky n + 4 ∧ sticky n ≤ 2 * T + 3 := by
  have a := whole_spec n hn
  have t := Bool.toNat_le (whole n * whole n != n)
  have u1 : whole n ≤ T + 1 := by
    rcases Nat.lt_or_ge (T + 1) (whole n) with c | c
    · have := Nat.mul_le_mul (show T + 2 ≤ whole n by omega) (show T + 2 ≤ whole n by omega)
      have e2 : (T + 2) * (T + 2) = T * T + 4 * T + 4 := by rw [Nat.add_mul, Nat.mul_add, Nat.mul_add]; omega
      omega
    · exact c
  have u2 : T ≤ whole n + 2 := by
    rcases Nat.lt_or_ge (whole n + 2) T with c | c
    · obtain ⟨U, rfl⟩ : ∃ U, T = U + 2 := ⟨T - 2, by omega⟩
      have := Nat.mul_le_mul (show whole n + 1 ≤ U by omega) (show whole n + 1 ≤ U by omega)
      have e2 : (U + 2) * (U + 2) = U * U + 4 * U + 4 := by rw [Nat.add_mul, Nat.mul_add, Nat.mul_add]; omega
      omega
    · exact c
  unfold sticky
  omega

theorem log2_square (s k : Nat) (hs : s ≠ 0) (hk : s.log2 = k) : (s * s).log2 = 2 * k ∨ (s * s).log2 = 2 * k + 1 := by
  have h := (Nat.log2_eq_iff hs).1 hk
  have hp : s * s ≠ 0 := Nat.ne_of_gt (Nat.mul_pos (by omega) (by omega))
  have h1 : 2 ^ (2 * k) ≤ s * s := by
    have := Nat.mul_le_mul h.1 h.1
    rw [← Nat.pow_add] at this
    have e : k + k = 2 * k := by omega
    rw [e] at this
    exact this
  have h2 : s * s < 2 ^ (2 * k + 2) := by
    have := Nat.mul_lt_mul'' h.2 h.2
    rw [← Nat.pow_add] at this
    have e : k + 1 + (k + 1) = 2 * k + 2 := by omega
    rw [e] at this
    exact this
  have a := (Nat.le_log2 hp).2 h1
  have b := (Nat.log2_lt hp).2 h2
  omega

/-- How the kept digits of a square, scaled, stand to the square itself. 'c' is 56 where the square has an odd number of digits, else 57. -/
theorem kept_near (s k c : Nat) (hk : k ≤ 31) (hL : (s * s).log2 + 56 = 2 * k + c) (hc : c = 56 ∨ c = 57) :
    kept (s * s) * 2 ^ c ≤ (s * 2 ^ (54 - k)) * (s * 2 ^ (54 - k)) + 2 ^ 56 ∧ (s * 2 ^ (54 - k)) * (s * 2 ^ (54 - k)) ≤ kept (s * s) * 2 ^ c + 2 ^ 56 := by
  have eT : (s * 2 ^ (54 - k)) * (s * 2 ^ (54 - k)) = s * s * 2 ^ (108 - 2 * k) := by
    have : 2 ^ (108 - 2 * k) = 2 ^ (54 - k) * 2 ^ (54 - k) := by rw [← Nat.pow_add]; congr 1; omega
    rw [this, Nat.mul_mul_mul_comm]
  rw [eT]
  unfold kept
  split
  · rename_i h
    have : s * s * 2 ^ (52 - (s * s).log2) * 2 ^ c = s * s * 2 ^ (108 - 2 * k) := by
      rw [Nat.mul_assoc, ← Nat.pow_add]; congr 2; omega
    rw [this]
    omega
  · rename_i h
    have er := rne_err (s * s) (2 ^ ((s * s).log2 - 52)) (Nat.two_pow_pos _)
    generalize rne (s * s) (2 ^ ((s * s).log2 - 52)) = r at *
    have e1 : 2 ^ c = 2 ^ ((s * s).log2 - 52) * 2 ^ (108 - 2 * k) := by rw [← Nat.pow_add]; congr 1; omega
    have e2 : r * 2 ^ c = r * 2 ^ ((s * s).log2 - 52) * 2 ^ (108 - 2 * k) := by rw [e1, Nat.mul_assoc]
    have m1 := Nat.mul_le_mul_right (2 ^ (108 - 2 * k)) er.1
    have m2 := Nat.mul_le_mul_right (2 ^ (108 - 2 * k)) er.2
    rw [Nat.add_mul, ← e1, Nat.mul_assoc 2, Nat.mul_assoc 2, ← e2] at m1
    rw [Nat.add_mul, ← e1, Nat.mul_assoc 2, Nat.mul_assoc 2, ← e2] at m2
    generalize r * 2 ^ c = A at *
    generalize s * s * 2 ^ (108 - 2 * k) = B at *
    rcases hc with hc | hc
    · subst hc; omega
    · subst hc; omega

/-- The heart: the root's digits, rounded, are the side's. -/
theorem kept_root (s k n : Nat) (hs : s ≠ 0) (hk : s.log2 = k) (hk2 : k ≤ 31) (hn : n ≠ 0) (hl : (sticky n).log2 = 55)
    (h1 : n ≤ (s * 2 ^ (54 - k)) * (s * 2 ^ (54 - k)) + 2 ^ 56) (h2 : (s * 2 ^ (54 - k)) * (s * 2 ^ (54 - k)) ≤ n + 2 ^ 56)
    (h3 : s = 2 ^ k → n = (s * 2 ^ (54 - k)) * (s * 2 ^ (54 - k))) : kept (sticky n) = s * 2 ^ (52 - k) := by
  have h := (Nat.log2_eq_iff hs).1 hk
  have eT : s * 2 ^ (54 - k) = 4 * (s * 2 ^ (52 - k)) := by
    have : 2 ^ (54 - k) = 2 ^ (52 - k) * 4 := by
      have : 54 - k = 52 - k + 2 := by omega
      rw [this, Nat.pow_add]
    rw [this, ← Nat.mul_assoc, Nat.mul_comm 4]
  have ev : (s * 2 ^ (52 - k)) % 2 = 0 := by
    have : 2 ^ (52 - k) = 2 ^ (51 - k) * 2 := by
      have : 52 - k = 51 - k + 1 := by omega
      rw [this, Nat.pow_succ]
    rw [this, ← Nat.mul_assoc]
    exact Nat.mul_mod_left _ _
  have hTn : s * 2 ^ (54 - k) ≠ 0 := Nat.ne_of_gt (Nat.mul_pos (by omega) (Nat.two_pow_pos _))
  have hst : 2 * (s * 2 ^ (54 - k)) ≤ sticky n + 4 ∧ sticky n ≤ 2 * (s * 2 ^ (54 - k)) + 3 := by
    by_cases c : s = 2 ^ k
    · rw [h3 c, sticky_square _ hTn]
      omega
    · refine sticky_near _ n hn ?_ h1 h2
      have h4 : 2 ^ k + 1 ≤ s := by omega
      have h5 := Nat.mul_le_mul_right (2 ^ (54 - k)) h4
      rw [Nat.add_mul, ← Nat.pow_add] at h5
      have e6 : k + (54 - k) = 54 := by omega
      rw [e6] at h5
      have h7 : 2 ^ 1 ≤ 2 ^ (54 - k) := Nat.pow_le_pow_right (by omega) (by omega)
      omega
  unfold kept
  rw [hl, if_neg (by omega)]
  refine rne_near _ _ _ (Nat.two_pow_pos _) ev ?_ ?_
  · rw [eT] at hst
    generalize s * 2 ^ (52 - k) = q at *
    omega
  · rw [eT] at hst
    generalize s * 2 ^ (52 - k) = q at *
    omega

theorem par0 (k : Nat) : (2 * k + 1023 + 1) % 2 = 0 := by omega
theorem par1 (k : Nat) : (2 * k + 1024 + 1) % 2 = 1 := by omega

theorem sqrt_square (s : Nat) (hs : s ≠ 0) (hle : s < 2 ^ 32) : sqrtRung (rung (s * s) 0 / 2 ^ 52) (rung (s * s) 0 % 2 ^ 52) = rung s 0 := by
  obtain ⟨k, hk⟩ : ∃ k, s.log2 = k := ⟨_, rfl⟩
  have hlt := (Nat.log2_lt hs).2 hle
  have hk2 : k ≤ 31 := by omega
  have h := (Nat.log2_eq_iff hs).1 hk
  have hp : s * s ≠ 0 := Nat.ne_of_gt (Nat.mul_pos (by omega) (by omega))
  have klo := kept_lo (s * s) hp
  have khi := kept_hi (s * s) hp
  -- a power of two
  have pow : s = 2 ^ k → (s * s).log2 = 2 * k ∧ kept (s * s) = 2 ^ 52 := by
    intro c
    have e : s * s = 2 ^ (2 * k) := by rw [c, ← Nat.pow_add]; congr 1; omega
    have el : (s * s).log2 = 2 * k := by
      rw [Nat.log2_eq_iff hp, e]
      exact ⟨Nat.le_refl _, Nat.pow_lt_pow_right (by omega) (by omega)⟩
    refine ⟨el, ?_⟩
    unfold kept
    rw [el, e]
    split
    · rw [← Nat.pow_add]; congr 1; omega
    · have e2 : 2 ^ (2 * k) = 2 ^ 52 * 2 ^ (2 * k - 52) := by rw [← Nat.pow_add]; congr 1; omega
      rw [e2, rne_mul _ _ (Nat.two_pow_pos _)]
  -- the end of both ways
  have fin : ∀ E f : Nat, f < 2 ^ 52 → ((E : Int) - 1075) / 2 = (k : Int) - 26 → (2 ^ 52 + f) * 2 ^ (56 + (E + 1) % 2) ≤ (s * 2 ^ (54 - k)) * (s * 2 ^ (54 - k)) + 2 ^ 56 →
      (s * 2 ^ (54 - k)) * (s * 2 ^ (54 - k)) ≤ (2 ^ 52 + f) * 2 ^ (56 + (E + 1) % 2) + 2 ^ 56 →
      (s = 2 ^ k → (2 ^ 52 + f) * 2 ^ (56 + (E + 1) % 2) = (s * 2 ^ (54 - k)) * (s * 2 ^ (54 - k))) → sqrtRung E f = rung s 0 := by
    intro E f hf hE a1 a2 a3
    obtain ⟨l1, l2⟩ := log2_sticky E f hf
    have hn : (2 ^ 52 + f) * 2 ^ (56 + (E + 1) % 2) ≠ 0 := Nat.ne_of_gt (Nat.mul_pos (by omega) (Nat.two_pow_pos _))
    have kr := kept_root s k _ hs hk hk2 hn l1 a1 a2 a3
    unfold sqrtRung
    unfold rung
    rw [l1, hE, kr, hk]
    have e1 : ((k : Int) - 26 - 29 + ((55 : Nat) : Int) + 1022).toNat = (0 + (k : Int) + 1022).toNat := by omega
    have e2 : kept s = s * 2 ^ (52 - k) := by
      unfold kept
      rw [hk, if_pos (by omega)]
    rw [e1, e2]
  have pw : s = 2 ^ k → (s * 2 ^ (54 - k)) * (s * 2 ^ (54 - k)) = 2 ^ 108 := by
    intro c
    rw [c, ← Nat.pow_add]
    have : k + (54 - k) = 54 := by omega
    rw [this]
  rcases log2_square s k hs hk with hL | hL
  · have kn := kept_near s k 56 hk2 (by omega) (.inl rfl)
    have er : rung (s * s) 0 = (2 * k + 1022) * 2 ^ 52 + kept (s * s) := by
      unfold rung
      rw [hL]
      congr 2
      omega
    rw [er]
    by_cases c : kept (s * s) = 2 ^ 53
    · rw [c] at kn ⊢
      have e1 : ((2 * k + 1022) * 2 ^ 52 + 2 ^ 53) / 2 ^ 52 = 2 * k + 1024 := by omega
      have e2 : ((2 * k + 1022) * 2 ^ 52 + 2 ^ 53) % 2 ^ 52 = 0 := by omega
      rw [e1, e2]
      have e3 := par1 k
      refine fin _ 0 (by omega) (by omega) ?_ ?_ ?_
      · rw [e3]; omega
      · rw [e3]; omega
      · intro d
        have := (pow d).2
        omega
    · have e1 : ((2 * k + 1022) * 2 ^ 52 + kept (s * s)) / 2 ^ 52 = 2 * k + 1023 := by omega
      have e2 : ((2 * k + 1022) * 2 ^ 52 + kept (s * s)) % 2 ^ 52 = kept (s * s) - 2 ^ 52 := by omega
      rw [e1, e2]
      have e3 := par0 k
      have e4 : 2 ^ 52 + (kept (s * s) - 2 ^ 52) = kept (s * s) := by omega
      refine fin _ _ (by omega) (by omega) ?_ ?_ ?_
      · rw [e3, e4]; exact kn.1
      · rw [e3, e4]; exact kn.2
      · intro d
        rw [e3, e4, (pow d).2, pw d, ← Nat.pow_add]
  · have kn := kept_near s k 57 hk2 (by omega) (.inr rfl)
    have nd : s ≠ 2 ^ k := by
      intro d
      have := (pow d).1
      omega
    have c : kept (s * s) < 2 ^ 53 := by
      rcases Nat.lt_or_ge (kept (s * s)) (2 ^ 53) with c | c
      · exact c
      · have c1 : kept (s * s) = 2 ^ 53 := by omega
        rw [c1] at kn
        -- the side has a gap to the next power of two
        have h4 : s + 1 ≤ 2 ^ (k + 1) := h.2
        have h5 := Nat.mul_le_mul_right (2 ^ (54 - k)) h4
        rw [Nat.add_mul, ← Nat.pow_add] at h5
        have e6 : k + 1 + (54 - k) = 55 := by omega
        rw [e6] at h5
        have h7 : 2 ^ 23 ≤ 2 ^ (54 - k) := Nat.pow_le_pow_right (by omega) (by omega)
        have h8 : s * 2 ^ (54 - k) ≤ 2 ^ 55 - 2 ^ 23 := by omega
        have h9 := Nat.mul_le_mul h8 h8
        omega
    have er : rung (s * s) 0 = (2 * k + 1023) * 2 ^ 52 + kept (s * s) := by
      unfold rung
      rw [hL]
      congr 2
      omega
    rw [er]
    have e1 : ((2 * k + 1023) * 2 ^ 52 + kept (s * s)) / 2 ^ 52 = 2 * k + 1024 := by omega
    have e2 : ((2 * k + 1023) * 2 ^ 52 + kept (s * s)) % 2 ^ 52 = kept (s * s) - 2 ^ 52 := by omega
    rw [e1, e2]
    have e3 := par1 k
    have e4 : 2 ^ 52 + (kept (s * s) - 2 ^ 52) = kept (s * s) := by omega
    refine fin _ _ (by omega) (by omega) ?_ ?_ (fun d => absurd d nd)
    · rw [e3, e4]; exact kn.1
    · rw [e3, e4]; exact kn.2


/-! ### The words of whole numbers, and the length of a squared distance -/

/-- A zero or a normal number, no sign. -/
def Ok (x : Nat) : Prop := x = 0 ∨ (2 ^ 52 ≤ x ∧ x < 2023 * 2 ^ 52)

theorem read_zero : double.read 0 = .number false 0 (-1074) := by decide

theorem zero_lt_datum (m : Nat) (p e : Int) (hm : 0 < m) : Datum.order (.number false 0 p) (.number false m e) = some .lt := by
  simp only [Datum.order, signed, Nat.shiftLeft_eq, Bool.false_eq_true, if_false, Option.some.injEq, Nat.zero_mul]
  refine Int.compare_eq_lt.2 ?_
  have := Nat.mul_pos hm (Nat.two_pow_pos (e - min p e).toNat)
  omega

theorem datum_gt_zero (m : Nat) (p e : Int) (hm : 0 < m) : Datum.order (.number false m e) (.number false 0 p) = some .gt := by
  simp only [Datum.order, signed, Nat.shiftLeft_eq, Bool.false_eq_true, if_false, Option.some.injEq, Nat.zero_mul]
  refine Int.compare_eq_gt.2 ?_
  have := Nat.mul_pos hm (Nat.two_pow_pos (e - min e p).toNat)
  omega

theorem order_ok (x y : Nat) (hx : Ok x) (hy : Ok y) : double.order x y = some (compare x y) := by
  rcases hx with rfl | ⟨a, b⟩
  · rcases hy with rfl | ⟨c, d⟩
    · decide
    · unfold Format.order
      rw [read_zero, read_normal y c (by omega), zero_lt_datum _ _ _ (by omega), Nat.compare_eq_lt.2 (by omega : 0 < y)]
  · rcases hy with rfl | ⟨c, d⟩
    · unfold Format.order
      rw [read_zero, read_normal x a (by omega), datum_gt_zero _ _ _ (by omega), Nat.compare_eq_gt.2 (by omega : 0 < x)]
    · exact order_normal x y a (by omega) c (by omega)

/-- 'float64(n)'. -/
def F (n : Nat) : Nat := double.nearest false n 0

theorem F_zero : F 0 = 0 := by decide

theorem log2_le64 (n : Nat) (hn : n ≠ 0) (h : n ≤ 2 ^ 64) : n.log2 ≤ 64 := by
  have := (Nat.log2_lt hn (k := 65)).2 (by omega)
  omega

theorem F_rung (n : Nat) (hn : n ≠ 0) (h : n ≤ 2 ^ 64) : F n = rung n 0 := by
  have := log2_le64 n hn h
  exact nearest_rung n 0 hn (by omega) (by omega)

theorem rung_ok (n : Nat) (hn : n ≠ 0) (h : n ≤ 2 ^ 64) : 2 ^ 52 ≤ rung n 0 ∧ rung n 0 < 2000 * 2 ^ 52 := by
  have h1 := log2_le64 n hn h
  have h2 := kept_hi n hn
  have h3 := kept_lo n hn
  unfold rung
  have h4 : (0 + (n.log2 : Int) + 1022).toNat ≤ 1086 := by omega
  generalize (0 + (n.log2 : Int) + 1022).toNat = e at *
  generalize kept n = c at *
  omega

theorem F_ok (n : Nat) (h : n ≤ 2 ^ 64) : Ok (F n) := by
  by_cases hn : n = 0
  · subst hn; exact .inl F_zero
  · rw [F_rung n hn h]
    have := rung_ok n hn h
    exact .inr (by omega)

theorem F_mono (n m : Nat) (h : n ≤ m) (hm : m ≤ 2 ^ 64) : F n ≤ F m := by
  by_cases hn : n = 0
  · subst hn; rw [F_zero]; exact Nat.zero_le _
  · rw [F_rung n hn (by omega), F_rung m (by omega) hm]
    exact rung_mono hn h 0 (by omega)

/-- '0 + x'. -/
theorem add_zero_left (x : Nat) (hx : Ok x) : double.add 0 x = some x := by
  rcases hx with rfl | ⟨a, b⟩
  · decide
  · unfold Format.add
    rw [read_zero, read_normal x a (by omega)]
    have dx := Nat.div_add_mod x (2 ^ 52)
    have mx := Nat.mod_lt x (Nat.two_pow_pos 52)
    have hE1 : 1 ≤ x / 2 ^ 52 := by omega
    have hE2 : x / 2 ^ 52 < 2023 := by omega
    generalize x / 2 ^ 52 = E at *
    generalize x % 2 ^ 52 = f at *
    simp only [Datum.sum, signed, Nat.shiftLeft_eq, Bool.false_eq_true, if_false, Nat.zero_mul, Option.map_some, Option.some.injEq, Format.write]
    have e0 : min (-1074 : Int) (-1074 + ((E - 1 : Nat) : Int)) = -1074 := by omega
    have e1 : (-1074 + ((E - 1 : Nat) : Int) - -1074).toNat = E - 1 := by omega
    rw [e0, e1]
    have hlog : ((2 ^ 52 + f) * 2 ^ (E - 1)).log2 = 52 + (E - 1) := by
      have hp : (2 ^ 52 + f) * 2 ^ (E - 1) ≠ 0 := Nat.ne_of_gt (Nat.mul_pos (by omega) (Nat.two_pow_pos _))
      refine (Nat.log2_eq_iff hp).2 ⟨?_, ?_⟩
      · rw [Nat.pow_add]
        exact Nat.mul_le_mul_right _ (by omega)
      · have : 52 + (E - 1) + 1 = 53 + (E - 1) := by omega
        rw [this, Nat.pow_add]
        exact Nat.mul_lt_mul_of_pos_right (by omega) (Nat.two_pow_pos _)
    have hp : (2 ^ 52 + f) * 2 ^ (E - 1) ≠ 0 := Nat.ne_of_gt (Nat.mul_pos (by omega) (Nat.two_pow_pos _))
    have hk : kept ((2 ^ 52 + f) * 2 ^ (E - 1)) = 2 ^ 52 + f := by
      unfold kept
      rw [hlog]
      split
      · have e2 : E - 1 = 0 := by omega
        rw [e2]
        simp
      · have e2 : 52 + (E - 1) - 52 = E - 1 := by omega
        rw [e2, rne_mul _ _ (Nat.two_pow_pos _)]
    have hn := nearest_rung ((2 ^ 52 + f) * 2 ^ (E - 1)) (-1074) hp (by rw [hlog]; omega) (by rw [hlog]; omega)
    have hr : rung ((2 ^ 52 + f) * 2 ^ (E - 1)) (-1074) = x := by
      unfold rung
      rw [hlog, hk]
      have e3 : (-1074 + ((52 + (E - 1) : Nat) : Int) + 1022).toNat = E - 1 := by omega
      rw [e3]
      omega
    rw [hr] at hn
    generalize (2 ^ 52 + f) * 2 ^ (E - 1) = M at *
    have e4 : (((0 : Nat) : Int) + (M : Int)) ≠ 0 := by omega
    rw [if_neg e4]
    have e5 : decide ((((0 : Nat) : Int) + (M : Int)) < 0) = false := by
      rw [decide_eq_false_iff_not]
      omega
    have e6 : (((0 : Nat) : Int) + (M : Int)).natAbs = M := by omega
    rw [e5, e6]
    exact hn

/-- The length of the squared distance 'lo', below 2^64. -/
def len (lo : Nat) : Nat := if lo = 0 then 0 else sqrtRung (F lo / 2 ^ 52) (F lo % 2 ^ 52)

theorem sqrt_F (lo : Nat) (h : lo ≤ 2 ^ 64) : double.sqrt (F lo) = some (len lo) := by
  unfold len
  split
  · rename_i c
    rw [c, F_zero]
    decide
  · rename_i c
    have := rung_ok lo c h
    rw [← F_rung lo c h] at this
    exact sqrt_normal _ this.1 (by omega)

theorem len_mono (a b : Nat) (h : a ≤ b) (hb : b ≤ 2 ^ 64) : len a ≤ len b := by
  unfold len
  by_cases ha : a = 0
  · rw [if_pos ha]
    exact Nat.zero_le _
  · rw [if_neg ha, if_neg (by omega)]
    have := rung_ok a ha (by omega)
    rw [← F_rung a ha (by omega)] at this
    exact sqrt_mono _ _ this.1 (F_mono a b h hb)

theorem len_square (s : Nat) (h : s < 2 ^ 32) : len (s * s) = F s := by
  unfold len
  by_cases hs : s = 0
  · subst hs
    decide
  · have hp : s * s ≠ 0 := Nat.ne_of_gt (Nat.mul_pos (by omega) (by omega))
    have hle : s * s ≤ 2 ^ 64 := by
      have := Nat.mul_le_mul (Nat.le_of_lt h) (Nat.le_of_lt h)
      omega
    rw [if_neg hp, F_rung _ hp hle, F_rung s hs (by omega)]
    exact sqrt_square s hs h

theorem len_top : len (2 ^ 64) = F (2 ^ 32) := by decide +kernel

theorem len_square' (s : Nat) (h : s ≤ 2 ^ 32) : len (s * s) = F s := by
  by_cases c : s = 2 ^ 32
  · subst c
    exact len_top
  · exact len_square s (by omega)

theorem square_le (s : Nat) (h : s ≤ 2 ^ 32) : s * s ≤ 2 ^ 64 := by
  have := Nat.mul_le_mul h h
  omega

/-- THE BRACKET. -/
theorem len_lo (s lo : Nat) (h1 : s * s ≤ lo) (h : lo ≤ 2 ^ 64) (hs : s ≤ 2 ^ 32) : F s ≤ len lo := by
  rw [← len_square' s hs]
  exact len_mono _ _ h1 h

theorem len_hi (s lo : Nat) (h1 : lo ≤ (s + 1) * (s + 1)) (hs : s + 1 ≤ 2 ^ 32) : len lo ≤ F (s + 1) := by
  rw [← len_square' (s + 1) hs]
  exact len_mono _ _ h1 (square_le _ hs)

theorem len_ok (lo : Nat) (h : lo ≤ 2 ^ 64) : Ok (len lo) := by
  by_cases c : lo = 0
  · subst c; exact .inl (by decide)
  · refine .inr ⟨?_, ?_⟩
    · have h1 := len_lo 1 lo (by omega) h (by omega)
      have h2 := rung_ok 1 (by omega) (by omega)
      rw [F_rung 1 (by omega) (by omega)] at h1
      omega
    · have h1 := len_mono lo (2 ^ 64) h (Nat.le_refl _)
      have h2 := rung_ok (2 ^ 32) (by omega) (by omega)
      rw [len_top, F_rung (2 ^ 32) (by omega) (by omega)] at h1
      omega

/-- '<=' and '>=' of such words. -/
theorem leq_ok (x y : Nat) (hx : Ok x) (hy : Ok y) (h : x ≤ y) : (double.order x y == some .lt || double.order x y == some .eq) = true := by
  rw [order_ok x y hx hy]
  rcases Nat.lt_or_ge x y with c | c
  · rw [Nat.compare_eq_lt.2 c]; decide
  · rw [Nat.compare_eq_eq.2 (by omega : x = y)]; decide

theorem geq_ok (x y : Nat) (hx : Ok x) (hy : Ok y) (h : y ≤ x) : (double.order x y == some .gt || double.order x y == some .eq) = true := by
  rw [order_ok x y hx hy]
  rcases Nat.lt_or_ge y x with c | c
  · rw [Nat.compare_eq_gt.2 c]; decide
  · rw [Nat.compare_eq_eq.2 (by omega : x = y)]; decide

theorem eql_ok (x : Nat) (hx : Ok x) : (double.order x x == some .eq) = true := by
  rw [order_ok x x hx hx, Nat.compare_eq_eq.2 rfl]; decide

end Go.Proofs.Qxb6614855a.Fl
