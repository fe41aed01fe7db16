import Derived.Test.Qxb6616758aFmtFp2
namespace Go.Proofs.Qxb6616758aFmt
open Ieee

/-- The significand and the place of a float32's lower 31 bits. -/
def mant (r : Nat) : Nat := if r / 2 ^ 23 = 0 then r % 2 ^ 23 else r % 2 ^ 23 + 2 ^ 23
def expo (r : Nat) : Int := if r / 2 ^ 23 = 0 then -149 else ((r / 2 ^ 23 : Nat) : Int) - 150

theorem mant_lt (r : Nat) : mant r < 2 ^ 24 := by
  unfold mant
  split <;> omega
theorem expo_in (r : Nat) (h : r < 255 * 2 ^ 23) : -149 ≤ expo r ∧ expo r ≤ 104 := by
  unfold expo
  split <;> omega

theorem sgl_sign : single.signWeight = 2 ^ 31 := rfl
theorem sgl_least : single.leastPlace = -149 := by decide
theorem sgl_binade : single.binade = 2 ^ 23 := rfl
theorem sgl_inf : single.infRung = 255 * 2 ^ 23 := by decide

theorem sgl_parts (s : Bool) (r : Nat) (h : r < 2 ^ 31) : (single.word s r / 2 ^ 31 % 2 == 1) = s ∧ single.word s r % 2 ^ 31 = r := by
  unfold Format.word
  rw [sgl_sign]
  cases s
  · have e1 : r / 2 ^ 31 = 0 := Nat.div_eq_of_lt h
    simp only [Bool.false_eq_true, if_false]
    rw [e1]
    exact ⟨by decide, Nat.mod_eq_of_lt h⟩
  · have e1 : (2 ^ 31 + r) / 2 ^ 31 = 1 := by omega
    simp only [if_true]
    rw [e1]
    exact ⟨by decide, by omega⟩

theorem read_fin (s : Bool) (r : Nat) (h : r < 255 * 2 ^ 23) : single.read (single.word s r) = .number s (mant r) (expo r) := by
  obtain ⟨p1, p2⟩ := sgl_parts s r (by omega)
  unfold Format.read
  rw [sgl_sign, sgl_binade, sgl_inf, sgl_least]
  simp only [p1, p2]
  unfold mant expo
  by_cases hr : r < 2 ^ 23
  · rw [if_pos hr, if_pos (by omega), if_pos (by omega), Nat.mod_eq_of_lt hr]
  · rw [if_neg hr, if_pos h, if_neg (by omega), if_neg (by omega), Nat.add_comm]
    have e : (-149 + ((r / 2 ^ 23 - 1 : Nat) : Int)) = ((r / 2 ^ 23 : Nat) : Int) - 150 := by omega
    rw [e]

theorem read_nan (s : Bool) (r : Nat) (h : 255 * 2 ^ 23 < r) (h2 : r < 2 ^ 31) : single.read (single.word s r) = .nan s (r - 255 * 2 ^ 23) := by
  obtain ⟨p1, p2⟩ := sgl_parts s r h2
  unfold Format.read
  rw [sgl_sign, sgl_binade, sgl_inf, sgl_least]
  simp only [p1, p2]
  rw [if_neg (by omega), if_neg (by omega), if_neg (by omega)]

theorem conv_fin (s : Bool) (r : Nat) (h : r < 255 * 2 ^ 23) : floatToFloatBits .f32 (single.word s r) .f64 = some (double.word s (sq (mant r) (expo r))) := by
  have he := expo_in r h
  have hm := mant_lt r
  unfold floatToFloatBits
  rw [if_neg (by decide)]
  have e1 : FloatKind.f32.decode (single.word s r) = .number s (mant r) (expo r) := read_fin s r h
  have e2 : FloatKind.f64.encode (.number s (mant r) (expo r)) = double.word s (sq (mant r) (expo r)) := sq_nearest s (mant r) hm (expo r) he.1 (by omega)
  obtain ⟨a, i, e3⟩ := read_sq s (mant r) hm (expo r) he.1 (by omega)
  have e4 : FloatKind.f64.decode (double.word s (sq (mant r) (expo r))) = .number s a i := e3
  rw [e1]
  simp only [e2, e4, Datum.isInfinity]
  rfl

theorem sub_fin (s : Bool) (r : Nat) (h : r < 255 * 2 ^ 23) : single.sub (single.word s r) (single.word s r) = some 0 := by
  unfold Format.sub
  rw [read_fin s r h]
  simp only [Datum.opposite, Datum.sum]
  have e : signed s (mant r) (expo r - min (expo r) (expo r)).toNat + signed (!s) (mant r) (expo r - min (expo r) (expo r)).toNat = 0 := by
    cases s <;> simp [signed] <;> omega
  rw [e]
  cases s <;> simp [Format.write, Format.nearest, Format.word]

theorem ord_fin (s : Bool) (r : Nat) (h : r < 255 * 2 ^ 23) : single.order (single.word s r) (single.word s r) = some .eq := order_self (read_fin s r h)
theorem ord_nan (s : Bool) (r : Nat) (h : 255 * 2 ^ 23 < r) (h2 : r < 2 ^ 31) (y : Nat) : single.order (single.word s r) y = none := by
  unfold Format.order
  rw [read_nan s r h h2]
  rfl
theorem ord_zero0 : single.order 0 0 = some .eq := by decide

/-- x == 0. -/
theorem ord_zero (s : Bool) (r : Nat) (h : r < 255 * 2 ^ 23) : (single.order (single.word s r) 0 == some .eq) = decide (r = 0) := by
  have hz : single.read 0 = .number false 0 (-149) := by decide
  have he := expo_in r h
  unfold Format.order
  rw [read_fin s r h, hz]
  simp only [Datum.order]
  have hb : min (expo r) (-149) = -149 := by omega
  rw [hb]
  have hm0 : mant r = 0 ↔ r = 0 := by
    unfold mant
    split <;> omega
  have hz2 : signed false 0 (-149 - -149 : Int).toNat = 0 := by decide
  rw [hz2]
  by_cases hr : r = 0
  · rw [decide_eq_true hr, hm0.2 hr]
    have : signed s 0 (expo r - -149).toNat = 0 := by cases s <;> simp [signed]
    rw [this]
    rfl
  · rw [decide_eq_false hr]
    have hp : 0 < mant r := Nat.pos_of_ne_zero (fun e => hr (hm0.1 e))
    have hq : 0 < mant r <<< (expo r - -149).toNat := by
      rw [Nat.shiftLeft_eq]
      exact Nat.mul_pos hp (Nat.two_pow_pos _)
    have hne : signed s (mant r) (expo r - -149).toNat ≠ 0 := by
      cases s <;> simp only [signed, Bool.false_eq_true, if_false, if_true] <;> omega
    generalize signed s (mant r) (expo r - -149).toNat = z at hne
    have hc : compare z 0 ≠ .eq := by
      intro e
      rw [Int.compare_eq_eq] at e
      exact hne e
    revert hc
    cases compare z 0 <;> intro hc <;> first | rfl | exact absurd rfl hc

theorem one_div (s : Bool) : ∃ z, single.div 1065353216 (single.word s 0) = some z ∧ (single.order z 0 == some .lt) = s := by
  cases s
  · exact ⟨2139095040, by decide +kernel, by decide +kernel⟩
  · exact ⟨4286578688, by decide +kernel, by decide +kernel⟩

theorem inf_facts (s : Bool) : single.order (single.word s (255 * 2 ^ 23)) (single.word s (255 * 2 ^ 23)) = some .eq ∧ single.sub (single.word s (255 * 2 ^ 23)) (single.word s (255 * 2 ^ 23)) = none ∧ (single.order (single.word s (255 * 2 ^ 23)) 0 == some .lt) = s := by
  cases s <;> decide +kernel

/-- What the tape answers for an invalid operation is a NaN. -/
theorem nan_tape (t : Nat) (x y : Nat) : single.order ((Question.nanBits .f32 x y).cut t) 0 = none := by
  have e : (Question.nanBits .f32 x y).cut t = (t % 2) * 2 ^ 31 + 0x7f800000 + 1 + (t / 2) % (2 ^ 23 - 1) := rfl
  rw [e]
  have h2 : (t / 2) % (2 ^ 23 - 1) < 2 ^ 23 - 1 := Nat.mod_lt _ (by decide)
  generalize (t / 2) % (2 ^ 23 - 1) = k at h2
  rcases Nat.mod_two_eq_zero_or_one t with h | h
  · rw [h]
    have := ord_nan false (0x7f800000 + 1 + k) (by omega) (by omega) 0
    simpa [Format.word] using this
  · rw [h]
    have := ord_nan true (0x7f800000 + 1 + k) (by omega) (by omega) 0
    rw [Format.word, if_pos rfl, sgl_sign] at this
    have e2 : 1 * 2 ^ 31 + 0x7f800000 + 1 + k = 2 ^ 31 + (0x7f800000 + 1 + k) := by omega
    rw [e2]
    exact this

end Go.Proofs.Qxb6616758aFmt
