/- Plain laws on floats: the quotient of two whole numbers below 2^53 in double precision hangs on their ratio alone. -/
import Derived.Laws.FloatArith
namespace Go.Proofs.YtjalihaidhkofaaDoor.Flt
open Ieee

/-- The sticky quotient. -/
def stick (x y : Nat) : Nat := 2 * (x / y) + (x % y != 0).toNat

theorem toNat_ne (n : Nat) : (n != 0).toNat = if n = 0 then 0 else 1 := by
  by_cases h : n = 0 <;> simp [h]

theorem stick_mul (x y c : Nat) (hc : 0 < c) : stick (x * c) (y * c) = stick x y := by
  unfold stick
  rw [Nat.mul_div_mul_right _ _ hc, Nat.mul_mod_mul_right, toNat_ne, toNat_ne]
  have : x % y * c = 0 ↔ x % y = 0 := by
    constructor
    · intro h; rcases Nat.mul_eq_zero.1 h with h | h <;> omega
    · intro h; rw [h]; simp
  by_cases h : x % y = 0
  · rw [if_pos h, if_pos (this.2 h)]
  · rw [if_neg h, if_neg (fun g => h (this.1 g))]

theorem stick_ratio {x y x' y' : Nat} (hy : 0 < y) (hy' : 0 < y') (h : x * y' = x' * y) : stick x y = stick x' y' := by
  rw [← stick_mul x y y' hy', ← stick_mul x' y' y hy, h, Nat.mul_comm y y']

/-- Twice the numerator: one digit more. -/
theorem stick_two (x y : Nat) (hy : 0 < y) : ∃ b s1 : Nat, b ≤ 1 ∧ s1 ≤ 1 ∧ stick (2 * x) y = 4 * (x / y) + 2 * b + s1 ∧ stick x y = 2 * (x / y) + (if b = 0 ∧ s1 = 0 then 0 else 1) := by
  have e := Nat.div_add_mod x y
  have hr := Nat.mod_lt x hy
  obtain ⟨q, hQ⟩ : ∃ q, x / y = q := ⟨_, rfl⟩
  obtain ⟨r, hR⟩ : ∃ r, x % y = r := ⟨_, rfl⟩
  have e2 : 2 * x = 2 * r + 2 * q * y := by rw [← e, hQ, hR, Nat.mul_add, Nat.mul_assoc, Nat.mul_comm q y]; omega
  rw [hR] at hr
  have s0 : stick x y = 2 * q + (if r = 0 then 0 else 1) := by unfold stick; rw [hR, hQ, toNat_ne]
  have S2 : stick (2 * x) y = 2 * (2 * x / y) + if 2 * x % y = 0 then 0 else 1 := by unfold stick; rw [toNat_ne]
  rw [hQ, s0, S2, e2]
  clear s0 S2 e2 e hQ hR
  by_cases hb : y ≤ 2 * r
  · have d : (2 * r + 2 * q * y) / y = 2 * q + 1 := by
      rw [Nat.add_mul_div_right _ _ hy]
      have : 2 * r / y = 1 := Nat.div_eq_of_lt_le (by omega) (by omega)
      omega
    have m : (2 * r + 2 * q * y) % y = 2 * r - y := by
      rw [Nat.add_mul_mod_self_right, Nat.mod_eq_sub_mod hb, Nat.mod_eq_of_lt (by omega)]
    refine ⟨1, if 2 * r - y = 0 then 0 else 1, by omega, by split <;> omega, ?_, ?_⟩
    · rw [d, m]; omega
    · rw [if_neg (by omega), if_neg (by omega)]
  · have d : (2 * r + 2 * q * y) / y = 2 * q := by
      rw [Nat.add_mul_div_right _ _ hy, Nat.div_eq_of_lt (by omega)]; omega
    have m : (2 * r + 2 * q * y) % y = 2 * r := by
      rw [Nat.add_mul_mod_self_right, Nat.mod_eq_of_lt (by omega)]
    refine ⟨0, if 2 * r = 0 then 0 else 1, by omega, by split <;> omega, ?_, ?_⟩
    · rw [d, m]; omega
    · by_cases h0 : r = 0
      · rw [if_pos h0, if_pos ⟨rfl, by rw [if_pos (by omega)]⟩]
      · rw [if_neg h0, if_neg]
        rintro ⟨-, h⟩; rw [if_neg (by omega)] at h; omega

/-- Between two powers of two. -/
theorem log2_of {n k : Nat} (h0 : 2 ^ k ≤ n) (h1 : n < 2 ^ (k + 1)) : n.log2 = k := by
  have hn : n ≠ 0 := by have := Nat.two_pow_pos k; omega
  exact (Nat.log2_eq_iff hn).2 ⟨h0, h1⟩

/-- Rounding to even where 'd' digits are dropped ('d' small). -/
theorem cut_even (s : Bool) (n d : Nat) (hd : d ≤ n.log2 + 2) : Toward.even.cut s n d = n / 2 ^ d + (decide (2 ^ d < 2 * (n % 2 ^ d)) || (2 ^ d == 2 * (n % 2 ^ d) && n / 2 ^ d % 2 == 1)).toNat := by
  unfold Toward.cut
  simp only [Nat.min_eq_left hd, Nat.one_shiftLeft]

theorem double_fraction : double.fractionBits = 52 := rfl
theorem double_least : double.leastPlace = -1074 := rfl

/-- A significand of 55 digits at a place in the middle: three digits are dropped, no subnormals come in. -/
theorem nearest_at (s : Bool) (n k : Nat) (p : Int) (hk : 52 ≤ k) (h0 : 2 ^ k ≤ n) (h1 : n < 2 ^ (k + 1)) (hp : -1000 ≤ p) :
    double.nearest s n p = double.word s (min ((p + k - 52 + 1074).toNat * double.binade + Toward.even.cut s n (k - 52)) double.infRung) := by
  have hl := log2_of h0 h1
  have hn : n ≠ 0 := by have := Nat.two_pow_pos k; omega
  unfold Format.nearest
  rw [if_neg hn]
  simp only [hl, double_fraction, double_least]
  have e1 : max (p + (k : Int) - ((52 : Nat) : Int)) (-1074) = p + k - 52 := by omega
  rw [e1]
  have e2 : (p - (p + (k : Int) - 52)).toNat = 0 := by omega
  have e3 : (p + (k : Int) - 52 - p).toNat = k - 52 := by omega
  have e4 : p + (k : Int) - 52 - -1074 = p + k - 52 + 1074 := by omega
  rw [e2, e3, e4, Nat.shiftLeft_zero]

theorem round_same (n1 n2 h c1 c2 : Nat) (e1 : n1 = 8 * h + c1) (e2 : n2 = 4 * h + c2)
    (hc : (c1 = 0 ∧ c2 = 0) ∨ (c1 = 4 ∧ c2 = 2) ∨ (0 < c1 ∧ c1 < 4 ∧ c2 = 1) ∨ (4 < c1 ∧ c1 < 8 ∧ c2 = 3)) :
    n1 / 8 + (decide (8 < 2 * (n1 % 8)) || (8 == 2 * (n1 % 8) && n1 / 8 % 2 == 1)).toNat = n2 / 4 + (decide (4 < 2 * (n2 % 4)) || (4 == 2 * (n2 % 4) && n2 / 4 % 2 == 1)).toNat := by
  have a1 : n1 / 8 = h := by omega
  have a2 : n1 % 8 = c1 := by omega
  have a3 : n2 / 4 = h := by omega
  have a4 : n2 % 4 = c2 := by omega
  rw [a1, a2, a3, a4]
  rcases hc with ⟨rfl, rfl⟩ | ⟨rfl, rfl⟩ | ⟨h0, h1, rfl⟩ | ⟨h0, h1, rfl⟩
  · rfl
  · rfl
  · have b1 : decide (8 < 2 * c1) = false := by simp; omega
    have b2 : (8 == 2 * c1) = false := by simp; omega
    rw [b1, b2]; rfl
  · have b1 : decide (8 < 2 * c1) = true := by simp; omega
    rw [b1]; rfl

/-- One digit more, a place lower: the same word. -/
theorem nearest_two (s : Bool) (x y : Nat) (p : Int) (hy : 0 < y) (h0 : 2 ^ 53 ≤ x / y) (h1 : x / y < 2 ^ 54) (hp : -1000 ≤ p) :
    double.nearest s (stick (2 * x) y) p = double.nearest s (stick x y) (p + 1) := by
  obtain ⟨b, s1, hb, hs, e1, e2⟩ := stick_two x y hy
  rw [e1, e2]
  generalize x / y = q at *
  have hz : (if b = 0 ∧ s1 = 0 then 0 else 1) ≤ 1 := by split <;> omega
  rw [nearest_at s _ 55 p (by omega) (by omega) (by omega) hp, nearest_at s _ 54 (p + 1) (by omega) (by omega) (by omega) (by omega)]
  have ep : (p + ((55 : Nat) : Int) - 52 + 1074) = (p + 1 + ((54 : Nat) : Int) - 52 + 1074) := by omega
  rw [ep]
  have l1 : (4 * q + 2 * b + s1).log2 = 55 := log2_of (by omega) (by omega)
  have l2 : (2 * q + if b = 0 ∧ s1 = 0 then 0 else 1).log2 = 54 := log2_of (by omega) (by omega)
  rw [cut_even _ _ _ (by rw [l1]; omega), cut_even _ _ _ (by rw [l2]; omega)]
  have : (4 * q + 2 * b + s1) / 2 ^ (55 - 52) + (decide (2 ^ (55 - 52) < 2 * ((4 * q + 2 * b + s1) % 2 ^ (55 - 52))) || (2 ^ (55 - 52) == 2 * ((4 * q + 2 * b + s1) % 2 ^ (55 - 52)) && (4 * q + 2 * b + s1) / 2 ^ (55 - 52) % 2 == 1)).toNat
      = (2 * q + if b = 0 ∧ s1 = 0 then 0 else 1) / 2 ^ (54 - 52) + (decide (2 ^ (54 - 52) < 2 * ((2 * q + if b = 0 ∧ s1 = 0 then 0 else 1) % 2 ^ (54 - 52))) || (2 ^ (54 - 52) == 2 * ((2 * q + if b = 0 ∧ s1 = 0 then 0 else 1) % 2 ^ (54 - 52)) && (2 * q + if b = 0 ∧ s1 = 0 then 0 else 1) / 2 ^ (54 - 52) % 2 == 1)).toNat := by
    clear l1 l2 e1 e2 ep
    simp only [show (55 - 52 : Nat) = 3 from rfl, show (54 - 52 : Nat) = 2 from rfl, show (2 ^ 3 : Nat) = 8 from rfl, show (2 ^ 2 : Nat) = 4 from rfl]
    obtain ⟨h, o, rfl, ho⟩ : ∃ h o, q = 2 * h + o ∧ o ≤ 1 := ⟨q / 2, q % 2, by omega, by omega⟩
    rcases (show b = 0 ∨ b = 1 by omega) with rfl | rfl <;> rcases (show s1 = 0 ∨ s1 = 1 by omega) with rfl | rfl <;> rcases (show o = 0 ∨ o = 1 by omega) with rfl | rfl
    all_goals first
      | exact round_same _ _ h 0 0 (by simp; omega) (by simp; omega) (Or.inl ⟨rfl, rfl⟩)
      | exact round_same _ _ h 4 2 (by simp; omega) (by simp; omega) (Or.inr (Or.inl ⟨rfl, rfl⟩))
      | exact round_same _ _ h 1 1 (by simp; omega) (by simp; omega) (Or.inr (Or.inr (Or.inl ⟨by omega, by omega, by omega⟩)))
      | exact round_same _ _ h 2 1 (by simp; omega) (by simp; omega) (Or.inr (Or.inr (Or.inl ⟨by omega, by omega, by omega⟩)))
      | exact round_same _ _ h 3 1 (by simp; omega) (by simp; omega) (Or.inr (Or.inr (Or.inl ⟨by omega, by omega, by omega⟩)))
      | exact round_same _ _ h 5 3 (by simp; omega) (by simp; omega) (Or.inr (Or.inr (Or.inr ⟨by omega, by omega, rfl⟩)))
      | exact round_same _ _ h 6 3 (by simp; omega) (by simp; omega) (Or.inr (Or.inr (Or.inr ⟨by omega, by omega, rfl⟩)))
      | exact round_same _ _ h 7 3 (by simp; omega) (by simp; omega) (Or.inr (Or.inr (Or.inr ⟨by omega, by omega, rfl⟩)))
  rw [this]

theorem double_binade : double.binade = 4503599627370496 := by decide
theorem double_inf : double.infRung = 9218868437227405312 := by decide
theorem double_sign : double.signWeight = 9223372036854775808 := by decide

theorem num_congr {s s' : Bool} {m m' : Nat} {p p' : Int} (h1 : s = s') (h2 : m = m') (h3 : p = p') : Datum.number s m p = Datum.number s' m' p' := by
  subst h1 h2 h3; rfl

/-- What a rung between the subnormals and infinity stands for. -/
theorem read_word (s : Bool) (e M : Nat) (h0 : 2 ^ 52 ≤ M) (h1 : M < 2 ^ 53) (he : e < 2045) :
    double.read (double.word s (e * 2 ^ 52 + M)) = .number s M (e - 1074) := by
  have hlt : e * 2 ^ 52 + M < 9218868437227405312 := by omega
  have hw : double.word s (e * 2 ^ 52 + M) = (if s then 1 else 0) * 9223372036854775808 + (e * 2 ^ 52 + M) := by
    unfold Format.word; rw [double_sign]; cases s <;> simp
  have hd : double.word s (e * 2 ^ 52 + M) / 9223372036854775808 = if s then 1 else 0 := by rw [hw]; cases s <;> simp <;> omega
  have hm : double.word s (e * 2 ^ 52 + M) % 9223372036854775808 = e * 2 ^ 52 + M := by rw [hw]; cases s <;> simp <;> omega
  unfold Format.read
  simp only [double_sign, double_binade, double_inf, double_least, hd, hm]
  rw [if_neg (by omega), if_pos hlt]
  have a1 : (e * 2 ^ 52 + M) % 4503599627370496 = M - 2 ^ 52 := by omega
  have a2 : (e * 2 ^ 52 + M) / 4503599627370496 = e + 1 := by omega
  rw [a1, a2]
  refine num_congr ?_ ?_ ?_
  · cases s <;> rfl
  · omega
  · omega

theorem log2_lt53 {m : Nat} (h0 : 0 < m) (h1 : m < 2 ^ 53) : m.log2 ≤ 52 := by
  have := (Nat.log2_lt (n := m) (k := 53) (by omega)).2 h1
  omega

/-- A whole number below 2^53 stands in full. -/
theorem shl_bounds {m : Nat} (h0 : 0 < m) (h1 : m < 2 ^ 53) : 2 ^ 52 ≤ m * 2 ^ (52 - m.log2) ∧ m * 2 ^ (52 - m.log2) < 2 ^ 53 := by
  have hl := log2_lt53 h0 h1
  have a := Nat.log2_self_le (n := m) (by omega)
  have b : m < 2 ^ (m.log2 + 1) := Nat.lt_log2_self
  constructor
  · calc 2 ^ 52 = 2 ^ m.log2 * 2 ^ (52 - m.log2) := by rw [← Nat.pow_add]; congr 1; omega
      _ ≤ _ := Nat.mul_le_mul_right _ a
  · calc m * 2 ^ (52 - m.log2) < 2 ^ (m.log2 + 1) * 2 ^ (52 - m.log2) := Nat.mul_lt_mul_of_pos_right b (Nat.two_pow_pos _)
      _ = 2 ^ 53 := by rw [← Nat.pow_add]; congr 1; omega

theorem nearest_int (s : Bool) (m : Nat) (h0 : 0 < m) (h1 : m < 2 ^ 53) :
    double.nearest s m 0 = double.word s ((m.log2 + 1022) * 2 ^ 52 + m * 2 ^ (52 - m.log2)) := by
  have hl := log2_lt53 h0 h1
  have hb := shl_bounds h0 h1
  unfold Format.nearest
  rw [if_neg (by omega)]
  simp only [double_fraction, double_least]
  have e1 : max ((0 : Int) + (m.log2 : Int) - ((52 : Nat) : Int)) (-1074) = (m.log2 : Int) - 52 := by omega
  rw [e1]
  have e2 : ((0 : Int) - ((m.log2 : Int) - 52)).toNat = 52 - m.log2 := by omega
  have e3 : ((m.log2 : Int) - 52 - 0).toNat = 0 := by omega
  have e4 : ((m.log2 : Int) - 52 - -1074).toNat = m.log2 + 1022 := by omega
  rw [e2, e3, e4, Nat.shiftLeft_eq, cut_even _ _ _ (by omega)]
  have e5 : (decide (2 ^ 0 < 2 * (m * 2 ^ (52 - m.log2) % 2 ^ 0)) || (2 ^ 0 == 2 * (m * 2 ^ (52 - m.log2) % 2 ^ 0) && m * 2 ^ (52 - m.log2) / 2 ^ 0 % 2 == 1)) = false := by
    rw [Nat.pow_zero, Nat.mod_one]; rfl
  rw [e5, Nat.pow_zero, Nat.div_one, double_binade, double_inf]
  congr 1
  simp only [Bool.toNat_false, Nat.add_zero]
  omega

/-- A whole number below 2^53, read back. -/
theorem read_int (s : Bool) (m : Nat) (h0 : 0 < m) (h1 : m < 2 ^ 53) :
    double.read (double.nearest s m 0) = .number s (m * 2 ^ (52 - m.log2)) ((m.log2 : Int) - 52) := by
  have hl := log2_lt53 h0 h1
  have hb := shl_bounds h0 h1
  rw [nearest_int s m h0 h1, read_word s _ _ hb.1 hb.2 (by omega)]
  refine num_congr rfl rfl ?_
  omega

/-- The quotient of two whole numbers below 2^53. -/
theorem div_int (s : Bool) (m n : Nat) (h0 : 0 < m) (h1 : m < 2 ^ 53) (g0 : 0 < n) (g1 : n < 2 ^ 53) :
    double.div (double.nearest s m 0) (double.nearest false n 0) =
      some (double.nearest s (stick (m * 2 ^ (52 - m.log2) * 2 ^ 54) (n * 2 ^ (52 - n.log2))) ((m.log2 : Int) - n.log2 - 55)) := by
  have hb := shl_bounds h0 h1
  have gb := shl_bounds g0 g1
  unfold Format.div
  rw [read_int s m h0 h1, read_int false n g0 g1]
  generalize hM : m * 2 ^ (52 - m.log2) = M at *
  generalize hN : n * 2 ^ (52 - n.log2) = N at *
  have lM : M.log2 = 52 := log2_of hb.1 hb.2
  have lN : N.log2 = 52 := log2_of gb.1 gb.2
  unfold Datum.quotient
  simp only [double_fraction, lM, lN]
  rw [if_neg (by omega)]
  simp only [show (52 + 2 + 52 - 52 : Nat) = 54 from rfl, Nat.shiftLeft_eq, Option.map_some, Format.write]
  congr 1
  have e : ((m.log2 : Int) - 52 - ((n.log2 : Int) - 52) - ((54 : Nat) : Int) - 1) = (m.log2 : Int) - n.log2 - 55 := by omega
  rw [e]
  simp only [Bool.xor_false]
  rfl

theorem mul_pow_log (m : Nat) (h : m.log2 ≤ 52) : m * 2 ^ (52 - m.log2) * 2 ^ m.log2 = m * 2 ^ 52 := by
  rw [Nat.mul_assoc, ← Nat.pow_add]; congr 2; omega

/-- The half of a common factor's law in which the first quotient has the digit more. -/
theorem div_half (s : Bool) (M1 N1 M2 N2 : Nat) (p1 p2 : Int) (a0 : 2 ^ 52 ≤ M1) (a1 : M1 < 2 ^ 53) (b0 : 2 ^ 52 ≤ N1) (_b1 : N1 < 2 ^ 53)
    (c0 : 2 ^ 52 ≤ M2) (_c1 : M2 < 2 ^ 53) (_d0 : 2 ^ 52 ≤ N2) (d1 : N2 < 2 ^ 53) (h : M1 * N2 = 2 * (M2 * N1)) (hp : p2 = p1 + 1) (hp1 : -1000 ≤ p1) :
    double.nearest s (stick (M1 * 2 ^ 54) N1) p1 = double.nearest s (stick (M2 * 2 ^ 54) N2) p2 := by
  have hN1 : 0 < N1 := by omega
  have hN2 : 0 < N2 := by omega
  have e : stick (M1 * 2 ^ 54) N1 = stick (2 * (M2 * 2 ^ 54)) N2 := by
    refine stick_ratio hN1 hN2 ?_
    calc M1 * 2 ^ 54 * N2 = M1 * N2 * 2 ^ 54 := by rw [Nat.mul_right_comm]
      _ = 2 * (M2 * N1) * 2 ^ 54 := by rw [h]
      _ = 2 * (M2 * 2 ^ 54) * N1 := by simp only [Nat.mul_assoc, Nat.mul_comm, Nat.mul_left_comm]
  have hlt : M2 < N2 := by
    have x1 : M1 < 2 * N1 := by omega
    have x2 : M1 * N2 < 2 * N1 * N2 := Nat.mul_lt_mul_of_pos_right x1 hN2
    rw [h, ← Nat.mul_assoc, Nat.mul_right_comm] at x2
    have x3 := Nat.lt_of_mul_lt_mul_left (a := 2 * N1) (by rw [Nat.mul_right_comm] at x2; simpa [Nat.mul_comm, Nat.mul_assoc, Nat.mul_left_comm] using x2 : 2 * N1 * M2 < 2 * N1 * N2)
    exact x3
  rw [e, hp]
  refine nearest_two s _ N2 p1 hN2 ?_ ?_ hp1
  · rw [Nat.le_div_iff_mul_le hN2]; omega
  · rw [Nat.div_lt_iff_lt_mul hN2]; omega

theorem pow_cmp {A B u v : Nat} (h : A * 2 ^ u = B * 2 ^ v) (h1 : A < 4 * B) (h2 : B < 4 * A) :
    (u = v ∧ A = B) ∨ (v = u + 1 ∧ A = 2 * B) ∨ (u = v + 1 ∧ B = 2 * A) := by
  have hu := Nat.two_pow_pos u
  have hv := Nat.two_pow_pos v
  have huv : v < u + 2 := by
    refine Nat.lt_of_not_le fun hc => ?_
    obtain ⟨d, rfl⟩ : ∃ d, v = u + 2 + d := ⟨v - (u + 2), by omega⟩
    have e : B * 2 ^ (u + 2 + d) = B * 4 * 2 ^ d * 2 ^ u := by
      rw [Nat.pow_add, Nat.pow_add]; simp only [Nat.mul_comm, Nat.mul_left_comm]
    rw [e] at h
    have h' := Nat.eq_of_mul_eq_mul_right hu h
    have : B * 4 ≤ B * 4 * 2 ^ d := Nat.le_mul_of_pos_right _ (Nat.two_pow_pos d)
    omega
  have hvu : u < v + 2 := by
    refine Nat.lt_of_not_le fun hc => ?_
    obtain ⟨d, rfl⟩ : ∃ d, u = v + 2 + d := ⟨u - (v + 2), by omega⟩
    have e : A * 2 ^ (v + 2 + d) = A * 4 * 2 ^ d * 2 ^ v := by
      rw [Nat.pow_add, Nat.pow_add]; simp only [Nat.mul_comm, Nat.mul_left_comm]
    rw [e] at h
    have h' := Nat.eq_of_mul_eq_mul_right hv h
    have : A * 4 ≤ A * 4 * 2 ^ d := Nat.le_mul_of_pos_right _ (Nat.two_pow_pos d)
    omega
  rcases (show v = u ∨ v = u + 1 ∨ u = v + 1 by omega) with rfl | rfl | rfl
  · exact Or.inl ⟨rfl, Nat.eq_of_mul_eq_mul_right hv h⟩
  · refine Or.inr (Or.inl ⟨rfl, ?_⟩)
    rw [Nat.pow_succ, Nat.mul_comm (2 ^ u) 2, ← Nat.mul_assoc] at h
    have := Nat.eq_of_mul_eq_mul_right hu h
    omega
  · refine Or.inr (Or.inr ⟨rfl, ?_⟩)
    rw [Nat.pow_succ, Nat.mul_comm (2 ^ v) 2, ← Nat.mul_assoc] at h
    have := Nat.eq_of_mul_eq_mul_right hv h
    omega

/-- A COMMON FACTOR OF BOTH OPERANDS CHANGES NOTHING. -/
theorem div_common (s : Bool) (m n c : Nat) (h0 : 0 < m) (g0 : 0 < n) (hc : 0 < c) (hm : m * c < 2 ^ 53) (hn : n * c < 2 ^ 53) :
    double.div (double.nearest s m 0) (double.nearest false n 0) = double.div (double.nearest s (m * c) 0) (double.nearest false (n * c) 0) := by
  have m1 : m < 2 ^ 53 := Nat.lt_of_le_of_lt (Nat.le_mul_of_pos_right m hc) hm
  have n1 : n < 2 ^ 53 := Nat.lt_of_le_of_lt (Nat.le_mul_of_pos_right n hc) hn
  have mc0 : 0 < m * c := Nat.mul_pos h0 hc
  have nc0 : 0 < n * c := Nat.mul_pos g0 hc
  rw [div_int s m n h0 m1 g0 n1, div_int s (m * c) (n * c) mc0 hm nc0 hn]
  have a := shl_bounds h0 m1
  have b := shl_bounds g0 n1
  have a' := shl_bounds mc0 hm
  have b' := shl_bounds nc0 hn
  have l1 := log2_lt53 h0 m1
  have l2 := log2_lt53 g0 n1
  have l3 := log2_lt53 mc0 hm
  have l4 := log2_lt53 nc0 hn
  have e1 := mul_pow_log m l1
  have e2 := mul_pow_log n l2
  have e3 := mul_pow_log (m * c) l3
  have e4 := mul_pow_log (n * c) l4
  generalize m * 2 ^ (52 - m.log2) = M1 at *
  generalize n * 2 ^ (52 - n.log2) = N1 at *
  generalize m * c * 2 ^ (52 - (m * c).log2) = M2 at *
  generalize n * c * 2 ^ (52 - (n * c).log2) = N2 at *
  generalize m.log2 = i at *
  generalize n.log2 = j at *
  generalize (m * c).log2 = i' at *
  generalize (n * c).log2 = j' at *
  have key : M1 * N2 * 2 ^ (i + j') = M2 * N1 * 2 ^ (i' + j) := by
    have x : M1 * 2 ^ i * (N2 * 2 ^ j') = M2 * 2 ^ i' * (N1 * 2 ^ j) := by
      rw [e1, e2, e3, e4]
      simp only [Nat.mul_assoc, Nat.mul_comm, Nat.mul_left_comm]
    rw [Nat.pow_add, Nat.pow_add]
    simpa only [Nat.mul_assoc, Nat.mul_comm, Nat.mul_left_comm] using x
  clear e1 e2 e3 e4
  have big : ∀ {a b a' b' : Nat}, a < 2 ^ 53 → b < 2 ^ 53 → 2 ^ 52 ≤ a' → 2 ^ 52 ≤ b' → a * b < 4 * (a' * b') := by
    intro a b a' b' x1 x2 x3 x4
    have y1 : a * b ≤ (2 ^ 53 - 1) * (2 ^ 53 - 1) := Nat.mul_le_mul (by omega) (by omega)
    have y2 : 2 ^ 52 * 2 ^ 52 ≤ a' * b' := Nat.mul_le_mul x3 x4
    omega
  rcases pow_cmp key (big a.2 b'.2 a'.1 b.1) (big a'.2 b.2 a.1 b'.1) with ⟨hp, hA⟩ | ⟨hp, hA⟩ | ⟨hp, hA⟩
  · have e : stick (M1 * 2 ^ 54) N1 = stick (M2 * 2 ^ 54) N2 := by
      refine stick_ratio (by omega) (by omega) ?_
      rw [Nat.mul_right_comm, hA, Nat.mul_right_comm]
    rw [e]
    have ep : (i : Int) - j - 55 = (i' : Int) - j' - 55 := by omega
    rw [ep]
  · exact congrArg some (div_half s M1 N1 M2 N2 _ _ a.1 a.2 b.1 b.2 a'.1 a'.2 b'.1 b'.2 hA (by omega) (by omega))
  · exact congrArg some (div_half s M2 N2 M1 N1 _ _ a'.1 a'.2 b'.1 b'.2 a.1 a.2 b.1 b.2 hA (by omega) (by omega)).symm

/-- A word that rounding gives is no NaN: it is equal to itself. -/
theorem order_self (w : Nat) (h : (double.read w).isNaN = false) : double.order w w = some .eq := by
  unfold Format.order
  generalize double.read w = d at *
  cases d with
  | nan => simp [Datum.isNaN] at h
  | infinity s => simp [Datum.order, compare, compareOfLessAndEq]
  | number s m p => simp [Datum.order, compare, compareOfLessAndEq]

theorem nearest_num (s : Bool) (m : Nat) (p : Int) : (double.read (double.nearest s m p)).isNaN = false := by
  obtain ⟨r, hr, e⟩ : ∃ r, r ≤ double.infRung ∧ double.nearest s m p = double.word s r := by
    unfold Format.nearest
    split
    · exact ⟨0, Nat.zero_le _, rfl⟩
    · exact ⟨_, Nat.min_le_right _ _, rfl⟩
  rw [e]
  rw [double_inf] at hr
  have hm : double.word s r % 9223372036854775808 = r := by unfold Format.word; rw [double_sign]; cases s <;> simp <;> omega
  unfold Format.read
  simp only [double_sign, double_binade, double_inf, hm]
  split
  · rfl
  · split
    · rfl
    · rw [if_pos (by omega)]; rfl

theorem div_self_order (s : Bool) (m n : Nat) (h0 : 0 < m) (h1 : m < 2 ^ 53) (g0 : 0 < n) (g1 : n < 2 ^ 53) :
    ∃ r, double.div (double.nearest s m 0) (double.nearest false n 0) = some r ∧ double.order r r = some .eq :=
  ⟨_, div_int s m n h0 h1 g0 g1, order_self _ (nearest_num ..)⟩

theorem xor_top (k r : Nat) (h : r < 2 ^ k) : r ^^^ 2 ^ k = 2 ^ k + r := by
  have x := Nat.two_pow_add_eq_or_of_lt h 1
  rw [Nat.mul_one] at x
  rw [x]
  apply Nat.eq_of_testBit_eq
  intro i
  rw [Nat.testBit_xor, Nat.testBit_or, Nat.testBit_two_pow]
  by_cases hi : k = i
  · subst hi
    rw [Nat.testBit_lt_two_pow h]; simp
  · simp [hi]

/-- The sign turned. -/
theorem neg_nearest (m : Nat) (h0 : 0 < m) (h1 : m < 2 ^ 53) : Op.negFloat .f64 (double.nearest false m 0) = double.nearest true m 0 := by
  have hb := shl_bounds h0 h1
  have hl := log2_lt53 h0 h1
  rw [nearest_int false m h0 h1, nearest_int true m h0 h1]
  generalize m * 2 ^ (52 - m.log2) = M at *
  generalize m.log2 = l at *
  unfold Op.negFloat Format.word
  rw [double_sign]
  show _ ^^^ 2 ^ 63 = _
  have hlt : (l + 1022) * 2 ^ 52 + M < 2 ^ 63 := by omega
  simp only [Bool.false_eq_true, if_false, if_true]
  exact xor_top 63 _ hlt

theorem ten1 : double.nearest false 10 0 = 4621819117588971520 := by decide
theorem ten2 : double.nearest false 100 0 = 4636737291354636288 := by decide
theorem ten3 : double.nearest false 1000 0 = 4652007308841189376 := by decide

/-- The word of a power of ten (1 to 3). -/
def tenBits : Nat → Nat
  | 1 => 4621819117588971520
  | 2 => 4636737291354636288
  | _ => 4652007308841189376

/-- m / 10^k AND (m * 10^(3-k)) / 1000 ARE ONE WORD, AND IT IS NO NaN. -/
theorem decimal_eq (s : Bool) (m k : Nat) (hm : 0 < m) (hk0 : 1 ≤ k) (hk3 : k ≤ 3) (hb : m * 10 ^ (3 - k) < 2 ^ 53) :
    ∃ r, double.div (double.nearest s m 0) (tenBits k) = some r ∧ double.div (double.nearest s (m * 10 ^ (3 - k)) 0) 4652007308841189376 = some r ∧ double.order r r = some .eq := by
  have hc : 0 < 10 ^ (3 - k) := Nat.pow_pos (by omega)
  have hm' : 0 < m * 10 ^ (3 - k) := Nat.mul_pos hm hc
  obtain ⟨r, hr, ho⟩ := div_self_order s (m * 10 ^ (3 - k)) 1000 hm' hb (by omega) (by omega)
  rw [ten3] at hr
  refine ⟨r, ?_, hr, ho⟩
  rw [← hr]
  rcases (show k = 1 ∨ k = 2 ∨ k = 3 by omega) with rfl | rfl | rfl
  · have := div_common s m 10 100 hm (by omega) (by omega) (by simpa using hb) (by omega)
    rw [ten1, show 10 * 100 = 1000 from rfl, ten3] at this
    exact this
  · have := div_common s m 100 10 hm (by omega) (by omega) (by simpa using hb) (by omega)
    rw [ten2, show 100 * 10 = 1000 from rfl, ten3] at this
    exact this
  · simp [tenBits]

/-- A whole number as a float, its sign apart. -/
theorem ofInt_pos (n : Nat) : floatOfInt .f64 (n : Int) = double.nearest false n 0 := by
  have h : decide ((n : Int) < 0) = false := by simp
  show double.nearest (decide ((n : Int) < 0)) (n : Int).natAbs 0 = _
  rw [h]; rfl
theorem ofInt_neg (n : Nat) (h0 : 0 < n) : floatOfInt .f64 (-(n : Int)) = double.nearest true n 0 := by
  have h : decide (-(n : Int) < 0) = true := by simp; omega
  show double.nearest (decide (-(n : Int) < 0)) (-(n : Int)).natAbs 0 = _
  rw [h, Int.natAbs_neg]; rfl

/-- Zero over a thousand: +0, which is equal to both zeros. -/
theorem zero_quo : double.div (floatOfInt .f64 0) 4652007308841189376 = some 0 := by decide
theorem zero_eq : double.order 0 0 = some .eq := by decide
theorem zero_eq_neg : double.order 9223372036854775808 0 = some .eq := by decide

end Go.Proofs.YtjalihaidhkofaaDoor.Flt
