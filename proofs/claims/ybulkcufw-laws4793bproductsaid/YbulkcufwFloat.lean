/-
  The plain laws of float64 products that the two laws over 'passing' need: no Go in sight.
  A word x with 'x ≤ 4607182418800017408' (the bits of 1.0) is a number between +0 and 1. Such words are closed under '*'; 1 * x = x; x == x.
-/
import Ieee.Arith
namespace Go.Proofs.Ybulkcufw.Fl
open Ieee

theorem sw : double.signWeight = 9223372036854775808 := by decide
theorem bi : double.binade = 4503599627370496 := by decide
theorem ir : double.infRung = 9218868437227405312 := by decide
theorem lp : double.leastPlace = -1074 := by decide
theorem fb : double.fractionBits = 52 := rfl

/-- What a word between +0 and 1 stands for. -/
theorem read_unit (x : Nat) (h : x ≤ 4607182418800017408) :
    ∃ (m : Nat) (i : Int), double.read x = .number false m i ∧ ((m < 4503599627370496 ∧ i = -1074 ∧ x = m) ∨ (4503599627370496 ≤ m ∧ m < 9007199254740992 ∧ -1074 ≤ i ∧ (x : Int) = (i + 1074) * 4503599627370496 + m)) := by
  have e1 : x / 9223372036854775808 % 2 = 0 := by omega
  have e2 : x % 9223372036854775808 = x := by omega
  unfold Format.read
  simp only [sw, bi, ir, lp, e1, e2]
  by_cases h1 : x < 4503599627370496
  · rw [if_pos h1]
    exact ⟨x, -1074, rfl, .inl ⟨h1, rfl, rfl⟩⟩
  · rw [if_neg h1, if_pos (by omega)]
    refine ⟨_, _, rfl, .inr ⟨by omega, by omega, by omega, by omega⟩⟩

/-- A rounded quotient is not above a whole number that the exact one is not above. -/
theorem cut_le (n drop K : Nat) (h : n ≤ K * 2 ^ drop) : Toward.even.cut false n drop ≤ K := by
  unfold Toward.cut
  simp only [Nat.one_shiftLeft]
  by_cases hd : drop ≤ n.log2 + 2
  · rw [Nat.min_eq_left hd]
    have hp : 0 < 2 ^ drop := Nat.two_pow_pos _
    by_cases hl : n / 2 ^ drop < K
    · have hb : ∀ b : Bool, b.toNat ≤ 1 := by intro b; cases b <;> decide
      have := hb (decide (2 ^ drop < 2 * (n % 2 ^ drop)) || (2 ^ drop == 2 * (n % 2 ^ drop) && n / 2 ^ drop % 2 == 1))
      omega
    · have h1 : K * 2 ^ drop ≤ n / 2 ^ drop * 2 ^ drop := Nat.mul_le_mul_right _ (by omega)
      have h2 := Nat.div_add_mod n (2 ^ drop)
      have h3 : n / 2 ^ drop * 2 ^ drop = 2 ^ drop * (n / 2 ^ drop) := Nat.mul_comm _ _
      have h4 : n % 2 ^ drop = 0 := by omega
      have h5 : n = K * 2 ^ drop := by omega
      have h6 : n / 2 ^ drop = K := by rw [h5]; exact Nat.mul_div_cancel _ hp
      have h7 : ¬ 2 ^ drop < 2 * 0 := by omega
      have h8 : (2 ^ drop == 2 * 0) = false := by rw [beq_eq_false_iff_ne]; omega
      rw [h4, h6, h8]
      simp
  · have hlog := Nat.lt_log2_self (n := n)
    rw [Nat.min_eq_right (by omega)]
    have hp : 2 ^ (n.log2 + 2) = 2 * 2 ^ (n.log2 + 1) := by rw [Nat.pow_succ, Nat.mul_comm]
    have h1 : n / 2 ^ (n.log2 + 2) = 0 := Nat.div_eq_of_lt (by omega)
    have h2 : n % 2 ^ (n.log2 + 2) = n := Nat.mod_eq_of_lt (by omega)
    have h7 : ¬ 2 ^ (n.log2 + 2) < 2 * n := by omega
    have h8 : (2 ^ (n.log2 + 2) == 2 * n) = false := by rw [beq_eq_false_iff_ne]; omega
    rw [h1, h2, h8]
    simp [h7]

theorem mag_le (x m : Nat) (i : Int) (h : x ≤ 4607182418800017408)
    (c : (m < 4503599627370496 ∧ i = -1074 ∧ x = m) ∨ (4503599627370496 ≤ m ∧ m < 9007199254740992 ∧ -1074 ≤ i ∧ (x : Int) = (i + 1074) * 4503599627370496 + m)) :
    ∃ a : Nat, i = -(a : Int) ∧ m ≤ 2 ^ a := by
  rcases c with ⟨c1, c2, _⟩ | ⟨c1, c2, c3, c4⟩
  · refine ⟨(-i).toNat, by omega, ?_⟩
    have h52 : 52 ≤ (-i).toNat := by omega
    have : 2 ^ 52 ≤ 2 ^ (-i).toNat := Nat.pow_le_pow_right (by omega) h52
    omega
  · refine ⟨(-i).toNat, by omega, ?_⟩
    by_cases e : i = -52
    · subst e
      have : (2 : Nat) ^ (-(-52 : Int)).toNat = 4503599627370496 := by decide
      omega
    · have h53 : 53 ≤ (-i).toNat := by omega
      have : 2 ^ 53 ≤ 2 ^ (-i).toNat := Nat.pow_le_pow_right (by omega) h53
      omega

/-- A number M * 2 ^ p that is not above 1 is written as a word that is not above 1. -/
theorem nearest_le (M : Nat) (p : Int) (a : Nat) (hp : p = -(a : Int)) (hM : M ≤ 2 ^ a) : double.nearest false M p ≤ 4607182418800017408 := by
  unfold Format.nearest
  by_cases h0 : M = 0
  · rw [if_pos h0]; simp [Format.word]
  rw [if_neg h0]
  simp only [lp, bi, ir, fb, Format.word]
  have l1 : 2 ^ M.log2 ≤ M := Nat.log2_self_le h0
  have l2 : M < 2 ^ (M.log2 + 1) := Nat.lt_log2_self
  generalize M.log2 = L at *
  have hLa : L ≤ a := by
    rcases Nat.lt_or_ge a L with h | h
    · have := Nat.pow_lt_pow_right (a := 2) (by omega) h; omega
    · exact h
  simp only [Bool.false_eq_true, if_false]
  refine Nat.le_trans (Nat.min_le_left _ _) ?_
  by_cases hc : L = a
  · have hl : max (p + (L : Int) - ((52 : Nat) : Int)) (-1074) = -52 := by omega
    rw [hl]
    have hMe : M = 2 ^ a := by rw [hc] at l1; omega
    have hk : Toward.even.cut false (M <<< (p - -52).toNat) (-52 - p).toNat ≤ 4503599627370496 := by
      refine cut_le _ _ _ ?_
      rw [Nat.shiftLeft_eq, hMe, ← Nat.pow_add, show (4503599627370496 : Nat) = 2 ^ 52 from rfl, ← Nat.pow_add]
      exact Nat.pow_le_pow_right (by omega) (by omega)
    omega
  · obtain ⟨q, hq⟩ : ∃ q, max (p + (L : Int) - ((52 : Nat) : Int)) (-1074) = q := ⟨_, rfl⟩
    rw [hq]
    have hq1 : q ≤ -53 := by omega
    have hq2 : p + L - 52 ≤ q := by omega
    have hq3 : -1074 ≤ q := by omega
    have hk : Toward.even.cut false (M <<< (p - q).toNat) (q - p).toNat ≤ 9007199254740992 := by
      refine cut_le _ _ _ ?_
      rw [Nat.shiftLeft_eq]
      refine Nat.le_trans (Nat.mul_le_mul_right _ (Nat.le_of_lt l2)) ?_
      rw [← Nat.pow_add, show (9007199254740992 : Nat) = 2 ^ 53 from rfl, ← Nat.pow_add]
      exact Nat.pow_le_pow_right (by omega) (by omega)
    omega

/-- The product of two words, as a plain function. -/
def fmul (x y : Nat) : Nat := (double.mul x y).getD 0

theorem mul_unit (x y : Nat) (hx : x ≤ 4607182418800017408) (hy : y ≤ 4607182418800017408) :
    double.mul x y = some (fmul x y) ∧ fmul x y ≤ 4607182418800017408 := by
  obtain ⟨m, i, hr, hc⟩ := read_unit x hx
  obtain ⟨n, j, hs, hd⟩ := read_unit y hy
  obtain ⟨a, ha, hma⟩ := mag_le x m i hx hc
  obtain ⟨b, hb, hnb⟩ := mag_le y n j hy hd
  have e : double.mul x y = some (double.nearest false (m * n) (i + j)) := by
    unfold Format.mul
    rw [hr, hs]
    rfl
  unfold fmul
  rw [e]
  refine ⟨rfl, ?_⟩
  refine nearest_le _ _ (a + b) (by omega) ?_
  rw [Nat.pow_add]
  exact Nat.mul_le_mul hma hnb

theorem read_one : double.read 4607182418800017408 = .number false 4503599627370496 (-52) := by decide

theorem back (x m : Nat) (i : Int) (hx : x ≤ 4607182418800017408)
    (hc : (m < 4503599627370496 ∧ i = -1074 ∧ x = m) ∨ (4503599627370496 ≤ m ∧ m < 9007199254740992 ∧ -1074 ≤ i ∧ (x : Int) = (i + 1074) * 4503599627370496 + m)) :
    min ((i - -1074).toNat * 4503599627370496 + m) 9218868437227405312 = x := by
  rcases hc with ⟨c1, c2, c3⟩ | ⟨c1, c2, c3, c4⟩
  · subst c2
    rw [show ((-1074 : Int) - -1074).toNat = 0 from by decide]
    omega
  · obtain ⟨k, hk⟩ : ∃ k : Nat, i = (k : Int) - 1074 := ⟨(i + 1074).toNat, by omega⟩
    subst hk
    rw [show ((k : Int) - 1074 - -1074).toNat = k from by omega]
    omega

/-- 1 * x = x. -/
theorem one_mul (x : Nat) (hx : x ≤ 4607182418800017408) : fmul 4607182418800017408 x = x := by
  obtain ⟨m, i, hr, hc⟩ := read_unit x hx
  have e : double.mul 4607182418800017408 x = some (double.nearest false (4503599627370496 * m) (-52 + i)) := by
    unfold Format.mul
    rw [hr, read_one]
    rfl
  unfold fmul
  rw [e]
  show double.nearest false (4503599627370496 * m) (-52 + i) = x
  unfold Format.nearest
  by_cases h0 : m = 0
  · rw [if_pos (by omega)]; simp [Format.word]; omega
  rw [if_neg (by omega)]
  simp only [lp, bi, ir, fb, Format.word]
  have hlog : (4503599627370496 * m).log2 = 52 + m.log2 := by
    rw [show (4503599627370496 : Nat) = 2 ^ 52 from rfl]
    refine (Nat.log2_eq_iff (by simp; omega)).2 ⟨?_, ?_⟩
    · rw [Nat.pow_add]; exact Nat.mul_le_mul_left _ (Nat.log2_self_le h0)
    · rw [Nat.add_assoc, Nat.pow_add]; exact (Nat.mul_lt_mul_left (Nat.two_pow_pos _)).2 Nat.lt_log2_self
  rw [hlog]
  have l1 : 2 ^ m.log2 ≤ m := Nat.log2_self_le h0
  have l2 : m < 2 ^ (m.log2 + 1) := Nat.lt_log2_self
  have hl : max (-52 + i + ((52 + m.log2 : Nat) : Int) - ((52 : Nat) : Int)) (-1074) = i := by
    generalize m.log2 = L at *
    rcases hc with ⟨c1, c2, _⟩ | ⟨c1, c2, c3, c4⟩
    · have : L < 52 := by
        rcases Nat.lt_or_ge L 52 with h | h
        · exact h
        · have := Nat.pow_le_pow_right (n := 2) (by omega) h; omega
      omega
    · have h1 : L < 53 := by
        rcases Nat.lt_or_ge L 53 with h | h
        · exact h
        · have := Nat.pow_le_pow_right (n := 2) (by omega) h; omega
      have h2 : 52 ≤ L := by
        rcases Nat.lt_or_ge L 52 with h | h
        · have := Nat.pow_le_pow_right (n := 2) (by omega) (show L + 1 ≤ 52 from h); omega
        · exact h
      omega
  rw [hl]
  have s1 : (-52 + i - i).toNat = 0 := by omega
  have s2 : (i - (-52 + i)).toNat = 52 := by omega
  rw [s1, s2]
  have hk : Toward.even.cut false ((4503599627370496 * m) <<< 0) 52 = m := by
    unfold Toward.cut
    simp only [Nat.shiftLeft_zero, Nat.one_shiftLeft]
    rw [hlog, Nat.min_eq_left (by omega)]
    have h1 : (2 : Nat) ^ 52 = 4503599627370496 := rfl
    rw [h1]
    have h2 : 4503599627370496 * m / 4503599627370496 = m := by omega
    have h3 : 4503599627370496 * m % 4503599627370496 = 0 := by omega
    rw [h2, h3]
    have h7 : ¬ 4503599627370496 < 2 * 0 := by omega
    have h8 : (4503599627370496 == 2 * 0) = false := by rw [beq_eq_false_iff_ne]; omega
    rw [h8]
    simp
  rw [hk]
  simp only [Bool.false_eq_true, if_false]
  exact back x m i hx hc

/-- x == x. -/
theorem order_self (x : Nat) (hx : x ≤ 4607182418800017408) : double.order x x = some .eq := by
  obtain ⟨m, i, hr, _⟩ := read_unit x hx
  unfold Format.order
  rw [hr]
  simp [Datum.order]

end Go.Proofs.Ybulkcufw.Fl
