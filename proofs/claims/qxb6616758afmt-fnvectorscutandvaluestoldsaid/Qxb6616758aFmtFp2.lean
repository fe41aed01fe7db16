import Derived.Test.Qxb6616758aFmtFp
import GoSem.Op.Unary
namespace Go.Proofs.Qxb6616758aFmt
open Ieee

/-- The double of M times 2^t, M below 2^24. -/
def sq (M : Nat) (t : Int) : Nat := if M = 0 then 0 else (t + M.log2 + 1023).toNat * 2 ^ 52 + (M * 2 ^ (52 - M.log2) - 2 ^ 52)

theorem log_le {M : Nat} (h0 : M ≠ 0) (h : M < 2 ^ 24) : M.log2 ≤ 23 := by
  have h1 : 2 ^ M.log2 ≤ M := Nat.log2_self_le h0
  rcases Nat.lt_or_ge M.log2 24 with q | q
  · omega
  · have : 2 ^ 24 ≤ 2 ^ M.log2 := Nat.pow_le_pow_right (by omega) q
    omega

theorem full {M : Nat} (h0 : M ≠ 0) (h : M < 2 ^ 24) : 2 ^ 52 ≤ M * 2 ^ (52 - M.log2) ∧ M * 2 ^ (52 - M.log2) < 2 ^ 53 := by
  have hl := log_le h0 h
  have h1 : 2 ^ M.log2 ≤ M := Nat.log2_self_le h0
  have h2 : M < 2 ^ (M.log2 + 1) := Nat.lt_log2_self
  have e1 : 2 ^ M.log2 * 2 ^ (52 - M.log2) = 2 ^ 52 := by rw [← Nat.pow_add]; congr 1; omega
  have e2 : 2 ^ (M.log2 + 1) * 2 ^ (52 - M.log2) = 2 ^ 53 := by rw [← Nat.pow_add]; congr 1; omega
  exact ⟨by rw [← e1]; exact Nat.mul_le_mul_right _ h1, by rw [← e2]; exact Nat.mul_lt_mul_of_pos_right h2 (Nat.two_pow_pos _)⟩

/-- sq in a normal double's shape. -/
theorem sq_norm {M : Nat} (h0 : M ≠ 0) (h : M < 2 ^ 24) (t : Int) (ht : -149 ≤ t) (ht2 : t ≤ 128) : ∃ E f, sq M t = E * 2 ^ 52 + f ∧ (E : Int) = t + M.log2 + 1023 ∧ f < 2 ^ 52 ∧ 2 ^ 52 + f = M * 2 ^ (52 - M.log2) := by
  have hf := full h0 h
  have hl := log_le h0 h
  exact ⟨(t + M.log2 + 1023).toNat, M * 2 ^ (52 - M.log2) - 2 ^ 52, by rw [sq, if_neg h0], by omega, by omega, by omega⟩

theorem sq_eq {M : Nat} (h0 : M ≠ 0) (t : Int) (E f : Nat) (hE : (E : Int) = t + M.log2 + 1023) (hf : 2 ^ 52 + f = M * 2 ^ (52 - M.log2)) : sq M t = E * 2 ^ 52 + f := by
  rw [sq, if_neg h0, ← hf, ← hE]
  simp

theorem sq_mul (M : Nat) (h : M < 2 ^ 24) (t : Int) (h0 : -149 ≤ t) (h1 : t ≤ 127) : double.mul (sq M t) 4611686018427387904 = some (sq M (t + 1)) := by
  by_cases hM : M = 0
  · subst hM
    exact mul_zero2
  · obtain ⟨E, f, e1, e2, e3, e4⟩ := sq_norm hM h t h0 (by omega)
    have hl := log_le hM h
    rw [e1, mul_two E f (by omega) (by omega) e3, sq_eq hM (t + 1) (E + 1) f (by omega) e4]

theorem sq_div (M : Nat) (h : M < 2 ^ 24) (t : Int) (h0 : -149 ≤ t) (h1 : t ≤ 128) : double.div (sq M t) 4611686018427387904 = some (sq M (t - 1)) := by
  by_cases hM : M = 0
  · subst hM
    exact div_zero2
  · obtain ⟨E, f, e1, e2, e3, e4⟩ := sq_norm hM h t h0 (by omega)
    have hl := log_le hM h
    rw [e1, div_two E f (by omega) (by omega) e3, sq_eq hM (t - 1) (E - 1) f (by omega) e4]

/-- The nearest double to such a number is the number. -/
theorem sq_nearest (neg : Bool) (M : Nat) (h : M < 2 ^ 24) (t : Int) (h0 : -149 ≤ t) (h1 : t ≤ 128) : double.nearest neg M t = double.word neg (sq M t) := by
  by_cases hM : M = 0
  · subst hM
    simp [Format.nearest, sq]
  · obtain ⟨E, f, e1, e2, e3, e4⟩ := sq_norm hM h t h0 h1
    have hl := log_le hM h
    have hf := full hM h
    rw [nearestB neg M (52 - M.log2) t hf.1 hf.2 (E - 1) (by omega) (by omega), e1, ← e4]
    have e5 : (E - 1) * 2 ^ 52 + (2 ^ 52 + f) = E * 2 ^ 52 + f := by omega
    rw [e5]

theorem of_int (m : Nat) (h : m < 2 ^ 24) : floatOfInt .f64 (m : Int) = sq m 0 := by
  simp only [floatOfInt, FloatKind.nearest, FloatKind.encode, FloatKind.format, Format.write, Int.natAbs_natCast]
  rw [decide_eq_false (by omega), sq_nearest false m h 0 (by omega) (by omega), Format.word, if_neg (by simp)]

theorem read_23 : double.read 4710765210229538816 = .number false (2 ^ 52) (-29) := by decide

theorem sq_add (m : Nat) (h : m < 2 ^ 23) : double.add (sq m 0) 4710765210229538816 = some (sq (m + 2 ^ 23) 0) := by
  have hl2 : (m + 2 ^ 23).log2 = 23 := log2_of (by omega) (by omega)
  have hs2 : sq (m + 2 ^ 23) 0 = 1046 * 2 ^ 52 + m * 2 ^ 29 := sq_eq (by omega) 0 1046 (m * 2 ^ 29) (by rw [hl2]; omega) (by rw [hl2]; omega)
  by_cases hM : m = 0
  · subst hM
    rw [hs2]
    decide +kernel
  · obtain ⟨E, f, e1, e2, e3, e4⟩ := sq_norm hM (by omega) 0 (by omega) (by omega)
    have hl : m.log2 ≤ 22 := by
      have h1 : 2 ^ m.log2 ≤ m := Nat.log2_self_le hM
      rcases Nat.lt_or_ge m.log2 23 with q | q
      · omega
      · have : 2 ^ 23 ≤ 2 ^ m.log2 := Nat.pow_le_pow_right (by omega) q
        omega
    unfold Format.add
    rw [e1, read_norm E f (by omega) (by omega) e3, read_23, e4]
    obtain ⟨L, hL⟩ : ∃ L, L = m.log2 := ⟨_, rfl⟩
    rw [← hL] at e2 e4 hl ⊢
    have b1 : min ((E : Int) - 1075) (-29) = (L : Int) - 52 := by omega
    have b2 : ((E : Int) - 1075 - ((L : Int) - 52)).toNat = 0 := by omega
    have b3 : (-29 - ((L : Int) - 52)).toNat = 23 - L := by omega
    simp only [Datum.sum, b1, b2, b3, signed, Nat.shiftLeft_eq, Nat.pow_zero, Nat.mul_one, Bool.false_eq_true, if_false]
    have hpow : m * 2 ^ (52 - L) + 2 ^ 52 * 2 ^ (23 - L) = (m + 2 ^ 23) * 2 ^ 29 * 2 ^ (23 - L) := by
      have p0 : 52 - L = 29 + (23 - L) := by omega
      have p1 : 2 ^ (52 - L) = 2 ^ 29 * 2 ^ (23 - L) := by rw [p0, Nat.pow_add]
      have p2 : (2 : Nat) ^ 52 = 2 ^ 23 * 2 ^ 29 := by rw [← Nat.pow_add]
      rw [p1, p2, Nat.add_mul, Nat.add_mul, Nat.mul_assoc m]
    have htot : ((m * 2 ^ (52 - L) : Nat) : Int) + ((2 ^ 52 * 2 ^ (23 - L) : Nat) : Int) = (((m + 2 ^ 23) * 2 ^ 29 * 2 ^ (23 - L) : Nat) : Int) := by rw [← hpow]; exact (Int.natCast_add _ _).symm
    rw [htot]
    have hpos : 0 < (m + 2 ^ 23) * 2 ^ 29 * 2 ^ (23 - L) := Nat.mul_pos (Nat.mul_pos (by omega) (by decide)) (Nat.two_pow_pos _)
    rw [if_neg (by omega), decide_eq_false (by omega), Int.natAbs_natCast]
    simp only [Option.map_some, Format.write]
    rw [nearestA false ((m + 2 ^ 23) * 2 ^ 29) (23 - L) _ (by omega) (by omega) 1045 (by omega) (by omega), hs2]
    simp [Format.word]
    omega

/-- A number's word with its sign, read. -/
theorem read_sq (neg : Bool) (M : Nat) (h : M < 2 ^ 24) (t : Int) (h0 : -149 ≤ t) (h1 : t ≤ 128) : ∃ a i, double.read (double.word neg (sq M t)) = .number neg a i := by
  by_cases hM : M = 0
  · subst hM
    have : sq 0 t = 0 := rfl
    rw [this]
    cases neg
    · exact ⟨0, -1074, by decide⟩
    · exact ⟨0, -1074, by decide⟩
  · obtain ⟨E, f, e1, e2, e3, e4⟩ := sq_norm hM h t h0 h1
    have hl := log_le hM h
    rw [e1]
    refine ⟨2 ^ 52 + f, (E : Int) - 1075, ?_⟩
    cases neg
    · exact read_norm E f (by omega) (by omega) e3
    · unfold Format.read Format.word
      rw [dbl_sign, dbl_binade, dbl_inf, dbl_least]
      have c1 : (2 ^ 63 + (E * 2 ^ 52 + f)) / 2 ^ 63 = 1 := by omega
      have c2 : (2 ^ 63 + (E * 2 ^ 52 + f)) % 2 ^ 63 = E * 2 ^ 52 + f := by omega
      have c3 : (E * 2 ^ 52 + f) % 2 ^ 52 = f := by omega
      have c4 : (E * 2 ^ 52 + f) / 2 ^ 52 = E := by omega
      simp only [if_true, c1, c2, c3, c4]
      rw [if_neg (by omega), if_pos (by omega)]
      have e5 : (-1074 + ((E - 1 : Nat) : Int)) = (E : Int) - 1075 := by omega
      rw [e5]
      rfl

theorem order_self {k : Ieee.Format} {z : Nat} {neg : Bool} {a : Nat} {i : Int} (h : k.read z = .number neg a i) : k.order z z = some .eq := by
  unfold Format.order
  rw [h]
  simp [Datum.order]

theorem sq_lt (M : Nat) (h : M < 2 ^ 24) (t : Int) (h0 : -149 ≤ t) (h1 : t ≤ 128) : sq M t < 2 ^ 63 := by
  by_cases hM : M = 0
  · subst hM
    have : sq 0 t = 0 := rfl
    rw [this]
    exact Nat.two_pow_pos _
  · obtain ⟨E, f, e1, e2, e3, e4⟩ := sq_norm hM h t h0 h1
    have hl := log_le hM h
    omega

theorem neg_word (x : Nat) (h : x < 2 ^ 63) : Op.negFloat .f64 x = double.word true x := by
  show x ^^^ 2 ^ 63 = 2 ^ 63 + x
  have e : 2 ^ 63 + x = 2 ^ 63 ||| x := by
    have := Nat.two_pow_add_eq_or_of_lt h 1
    simpa using this
  rw [e]
  apply Nat.eq_of_testBit_eq
  intro i
  rw [Nat.testBit_xor, Nat.testBit_or, Nat.testBit_two_pow]
  by_cases hi : 63 = i
  · subst hi
    rw [Nat.testBit_lt_two_pow h]
    rfl
  · simp [hi]

end Go.Proofs.Qxb6616758aFmt
