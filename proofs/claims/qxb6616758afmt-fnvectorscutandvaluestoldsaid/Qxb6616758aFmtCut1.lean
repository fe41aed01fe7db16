import Derived.Test.Qxb6616758aFmtPart
namespace Go.Proofs.Qxb6616758aFmt
open Go.RowKit Go.Stop

theorem run_mid (g off l c i : Nat) (hi : 4 * i + 4 ≤ c) (W : World) :
    (Instr.slice 24 (.slice (some ⟨g, off, none⟩) l c) (some (.int .i64 (4 * (i : Int)))) (some (.int .i64 (4 * (i : Int) + 4))) none).run Tryf.prog W = .ok (.slice (some ⟨g, off + 4 * i, none⟩) 4 (c - 4 * i)) W := by
  have ht : Tryf.prog.underlying 24 = some (.slice (Tryf.prog.elem 24)) := by kernel_rfl
  have hz : (sizeOf (Tryf.prog.elem 24)).run Tryf.prog W = .ok 1 W := by kernel_rfl
  rw [run_slice_lh W 24 (some ⟨g, off, none⟩) l c ht .i64 .i64 (4 * (i : Int)) (4 * (i : Int) + 4) (by omega) (by omega) (by omega), hz]
  have e1 : (4 * (i : Int)).toNat = 4 * i := by omega
  have e2 : (4 * (i : Int) + 4).toNat = 4 * i + 4 := by omega
  have e3 : ¬ c = 4 * i := by omega
  have e4 : 4 * i + 4 - 4 * i = 4 := by omega
  simp only [Result.andThen, sliced, e1, e2, if_neg e3, Nat.mul_one, Option.map_some, add_at, e4]

theorem run_high (t : TypeId) (ht : Tryf.prog.underlying t = some (.slice (Tryf.prog.elem t))) (hz : ∀ W, (sizeOf (Tryf.prog.elem t)).run Tryf.prog W = .ok 1 W) (a : Option Addr) (len cap k : Nat) (hk : k ≤ cap) (W : World) :
    (Instr.slice t (.slice a len cap) none (some (.int .i64 (k : Int))) none).run Tryf.prog W = .ok (.slice a k cap) W := by
  rw [run_slice_h W t a len cap ht .i64 (k : Int) (by omega) (by omega), hz W]
  have e : a.map (·.add 0) = a := by cases a <;> simp [Addr.add]
  simp [Result.andThen, sliced, e]

theorem Sl.low {w : World} {a : Option Addr} {vs : List Value} (h : Sl w a vs) (cap k : Nat) (hc : vs.length ≤ cap) : Sl w (lowA a cap k) (vs.drop k) := by
  refine ⟨fun e => ?_, fun x hx j v hv => ?_⟩
  · unfold lowA at e
    split at e
    · rw [h.1 e]; simp
    · have : a = none := by cases a <;> simp_all
      rw [h.1 this]; simp
  · rw [List.getElem?_drop] at hv
    obtain ⟨b, off, ha, hcell⟩ := h.at (k + j) v hv
    have hlt : k + j < vs.length := (List.getElem?_eq_some_iff.1 hv).1
    unfold lowA at hx
    rw [if_neg (by omega), ha, Option.map_some, add_at] at hx
    injection hx with hx
    rw [← hx, add_at, Nat.add_assoc]
    exact hcell

theorem words_append (a b : List Nat) : words (a ++ b) = words a ++ words b := by
  unfold words
  rw [List.map_append, List.flatten_append]

/-- The i-th word, byte by byte. -/
theorem words_get (xs : List Nat) (i j : Nat) (hi : i < xs.length) (hj : j < 4) : (words xs)[4 * i + j]? = (Lib.leBytes 4 (xs.getD i 0))[j]? := by
  have e : xs = xs.take i ++ (xs.getD i 0 :: xs.drop (i + 1)) := by
    rw [List.getD, List.getElem?_eq_getElem hi, Option.getD_some, ← List.drop_eq_getElem_cons hi, List.take_append_drop]
  have e2 : words xs = words (xs.take i) ++ (Lib.leBytes 4 (xs.getD i 0) ++ words (xs.drop (i + 1))) := by
    rw [e, words_append]
    simp only [words, List.map_cons, List.flatten_cons]
    rw [← e]
  have hl : (words (xs.take i)).length = 4 * i := by rw [words_length, List.length_take]; omega
  rw [e2, List.getElem?_append_right (by omega), hl, Nat.add_sub_cancel_left, List.getElem?_append_left (by rw [leBytes4_length]; exact hj)]

/-- The four bytes of the i-th word, as they lie. -/
theorem four_of {w : World} {g off : Nat} {xs : List Nat} {i : Nat} (hb : Bytes w ⟨g, off, none⟩ (words xs)) (hi : i < xs.length) (hx : xs.getD i 0 < 4294967296) :
    ∃ b0 b1 b2 b3, Four w g (off + 4 * i) (xs.getD i 0) b0 b1 b2 b3 := by
  obtain ⟨x, hxx⟩ : ∃ x, x = xs.getD i 0 := ⟨_, rfl⟩
  have hw : ∀ j b, j < 4 → (Lib.leBytes 4 x)[j]? = some b → w.cell? ⟨g, off + 4 * i + j, none⟩ = some (.int .u8 (b.toNat : Int)) := by
    intro j b hj hb2
    have q := words_get xs i j hi hj
    rw [← hxx, hb2] at q
    have := hb _ _ q
    rw [add_at] at this
    rw [Nat.add_assoc]
    exact this
  rw [← hxx] at hx ⊢
  have c0 := hw 0 (x % 256).toUInt8 (by omega) rfl
  have c1 := hw 1 (x / 256 % 256).toUInt8 (by omega) rfl
  have c2 := hw 2 (x / 256 / 256 % 256).toUInt8 (by omega) rfl
  have c3 := hw 3 (x / 256 / 256 / 256 % 256).toUInt8 (by omega) rfl
  have t : ∀ y : Nat, (y % 256).toUInt8.toNat = y % 256 := fun y => by
    rw [Nat.toUInt8_eq, UInt8.toNat_ofNat']
    omega
  rw [t] at c0 c1 c2 c3
  rw [Nat.add_zero] at c0
  exact ⟨_, _, _, _, by omega, by omega, by omega, by omega, by omega, c0, c1, c2, c3⟩

end Go.Proofs.Qxb6616758aFmt
