/-
  FLOATS, PLAIN: doubles that are a significand of 24 bits times a power of two: float64(m), + 2^23, * 2, / 2, float64(x) are exact. No Go.
-/
import Derived.Laws.FloatArith
namespace Go.Proofs.Qxb6616758aFmt
open Ieee

theorem log2_of {n k : Nat} (h1 : 2 ^ k ≤ n) (h2 : n < 2 ^ (k + 1)) : n.log2 = k :=
  (Nat.log2_eq_iff (by have : 0 < 2 ^ k := Nat.two_pow_pos k; omega)).2 ⟨h1, h2⟩

theorem log2_shift {K s k : Nat} (h1 : 2 ^ k ≤ K) (h2 : K < 2 ^ (k + 1)) : (K * 2 ^ s).log2 = k + s := by
  refine log2_of ?_ ?_
  · rw [Nat.pow_add]
    exact Nat.mul_le_mul_right _ h1
  · rw [show k + s + 1 = (k + 1) + s by omega, Nat.pow_add]
    exact Nat.mul_lt_mul_of_pos_right h2 (Nat.two_pow_pos s)

theorem cut_exact (neg : Bool) (K s : Nat) (hK : 1 ≤ K) : Toward.even.cut neg (K * 2 ^ s) s = K := by
  have hs : s ≤ (K * 2 ^ s).log2 := by
    have h1 : 2 ^ K.log2 ≤ K := Nat.log2_self_le (by omega)
    have h2 : K < 2 ^ (K.log2 + 1) := Nat.lt_log2_self
    rw [log2_shift h1 h2]
    omega
  have hm : min s ((K * 2 ^ s).log2 + 2) = s := Nat.min_eq_left (by omega)
  have hp : 0 < 2 ^ s := Nat.two_pow_pos s
  unfold Toward.cut
  simp only [hm, Nat.one_shiftLeft, Nat.mul_div_cancel _ hp, Nat.mul_mod_left]
  have hb : (decide (2 ^ s < 2 * 0) || 2 ^ s == 2 * 0 && K % 2 == 1) = false := by
    have e1 : decide (2 ^ s < 2 * 0) = false := decide_eq_false (by omega)
    have e2 : (2 ^ s == 2 * 0) = false := beq_eq_false_iff_ne.2 (by omega)
    rw [e1, e2]
    rfl
  rw [hb]
  rfl

theorem dbl_frac : double.fractionBits = 52 := rfl
theorem dbl_least : double.leastPlace = -1074 := by decide
theorem dbl_binade : double.binade = 2 ^ 52 := rfl
theorem dbl_inf : double.infRung = 2047 * 2 ^ 52 := by decide

theorem nearestA (neg : Bool) (K s : Nat) (place : Int) (h1 : 2 ^ 52 ≤ K) (h2 : K < 2 ^ 53) (P : Nat) (hP : place + s + 1074 = P) (hI : P ≤ 2045) : double.nearest neg (K * 2 ^ s) place = double.word neg (P * 2 ^ 52 + K) := by
  have hp : 0 < 2 ^ s := Nat.two_pow_pos s
  have h0 : ¬ K * 2 ^ s = 0 := by
    have : 0 < K * 2 ^ s := Nat.mul_pos (by omega) hp
    omega
  unfold Format.nearest
  rw [if_neg h0, log2_shift h1 h2, dbl_frac, dbl_least, dbl_binade, dbl_inf]
  have e1 : max (place + ((52 + s : Nat) : Int) - ((52 : Nat) : Int)) (-1074) = place + s := by omega
  have e2 : (place - (place + s)).toNat = 0 := by omega
  have e3 : (place + s - place).toNat = s := by omega
  have e4 : (place + s - -1074).toNat = P := by omega
  simp only [e1, e2, e3, e4, Nat.shiftLeft_zero]
  rw [cut_exact neg K s (by omega), Nat.min_eq_left (by omega)]

theorem nearestB (neg : Bool) (mag s : Nat) (place : Int) (h1 : 2 ^ 52 ≤ mag * 2 ^ s) (h2 : mag * 2 ^ s < 2 ^ 53) (P : Nat) (hP : place + 1074 = P + s) (hI : P ≤ 2045) : double.nearest neg mag place = double.word neg (P * 2 ^ 52 + mag * 2 ^ s) := by
  have hp : 0 < 2 ^ s := Nat.two_pow_pos s
  have h0 : ¬ mag = 0 := by
    intro e
    rw [e, Nat.zero_mul] at h1
    omega
  have hlog : mag.log2 + s = 52 := by
    have q1 : 2 ^ mag.log2 ≤ mag := Nat.log2_self_le h0
    have q2 : mag < 2 ^ (mag.log2 + 1) := Nat.lt_log2_self
    have q3 := log2_shift (s := s) q1 q2
    rw [log2_of h1 h2] at q3
    omega
  unfold Format.nearest
  rw [if_neg h0, dbl_frac, dbl_least, dbl_binade, dbl_inf]
  have e1 : max (place + (mag.log2 : Int) - ((52 : Nat) : Int)) (-1074) = place - s := by omega
  have e2 : (place - (place - s)).toNat = s := by omega
  have e3 : (place - s - place).toNat = 0 := by omega
  have e4 : (place - s - -1074).toNat = P := by omega
  simp only [e1, e2, e3, e4, Nat.shiftLeft_eq]
  have e5 := cut_exact neg (mag * 2 ^ s) 0 (by omega)
  rw [Nat.pow_zero, Nat.mul_one] at e5
  rw [e5, Nat.min_eq_left (by omega)]

theorem dbl_sign : double.signWeight = 2 ^ 63 := rfl

/-- A normal double, read. -/
theorem read_norm (E f : Nat) (h1 : 1 ≤ E) (h2 : E ≤ 2046) (hf : f < 2 ^ 52) : double.read (E * 2 ^ 52 + f) = .number false (2 ^ 52 + f) ((E : Int) - 1075) := by
  unfold Format.read
  rw [dbl_sign, dbl_binade, dbl_inf, dbl_least]
  have e1 : (E * 2 ^ 52 + f) / 2 ^ 63 = 0 := Nat.div_eq_of_lt (by omega)
  have e2 : (E * 2 ^ 52 + f) % 2 ^ 63 = E * 2 ^ 52 + f := Nat.mod_eq_of_lt (by omega)
  have e3 : (E * 2 ^ 52 + f) % 2 ^ 52 = f := by omega
  have e4 : (E * 2 ^ 52 + f) / 2 ^ 52 = E := by omega
  simp only [e1, e2, e3, e4]
  rw [if_neg (by omega), if_pos (by omega)]
  have e5 : (-1074 + ((E - 1 : Nat) : Int)) = (E : Int) - 1075 := by omega
  rw [e5]
  rfl

theorem read_two : double.read 4611686018427387904 = .number false (2 ^ 52) (-51) := by decide

theorem mul_two (E f : Nat) (h1 : 1 ≤ E) (h2 : E ≤ 2045) (hf : f < 2 ^ 52) : double.mul (E * 2 ^ 52 + f) 4611686018427387904 = some ((E + 1) * 2 ^ 52 + f) := by
  unfold Format.mul
  rw [read_norm E f h1 (by omega) hf, read_two]
  simp only [Datum.product, Option.map_some, Format.write]
  rw [nearestA _ (2 ^ 52 + f) 52 ((E : Int) - 1075 + -51) (by omega) (by omega) E (by omega) (by omega)]
  simp [Format.word]
  omega

theorem div_two (E f : Nat) (h1 : 2 ≤ E) (h2 : E ≤ 2046) (hf : f < 2 ^ 52) : double.div (E * 2 ^ 52 + f) 4611686018427387904 = some ((E - 1) * 2 ^ 52 + f) := by
  unfold Format.div
  rw [read_norm E f (by omega) (by omega) hf, read_two, dbl_frac]
  have l1 : (2 ^ 52 + f).log2 = 52 := log2_of (by omega) (by omega)
  have l2 : (2 ^ 52).log2 = 52 := log2_of (by omega) (by omega)
  simp only [Datum.quotient, l1, l2, Nat.shiftLeft_eq]
  rw [if_neg (by decide)]
  simp only [Option.map_some, Format.write]
  have e1 : (2 ^ 52 + f) * 2 ^ (52 + 2 + 52 - 52) / 2 ^ 52 = (2 ^ 52 + f) * 4 := by omega
  have e2 : (2 ^ 52 + f) * 2 ^ (52 + 2 + 52 - 52) % 2 ^ 52 = 0 := by omega
  rw [e1, e2]
  have e3 : 2 * ((2 ^ 52 + f) * 4) + ((0 : Nat) != 0).toNat = (2 ^ 52 + f) * 2 ^ 3 := by simp; omega
  rw [e3, nearestA _ (2 ^ 52 + f) 3 _ (by omega) (by omega) (E - 2) (by omega) (by omega)]
  simp [Format.word]
  omega

theorem mul_zero2 : double.mul 0 4611686018427387904 = some 0 := by decide
theorem div_zero2 : double.div 0 4611686018427387904 = some 0 := by decide

end Go.Proofs.Qxb6616758aFmt
