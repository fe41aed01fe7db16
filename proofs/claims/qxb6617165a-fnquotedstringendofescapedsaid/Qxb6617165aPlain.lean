/-
  THE PLAIN LAW: lists of bytes alone, no Go.
-/
import Derived.RowKit
namespace Go.Proofs.Qxb6617165a

/-- Not printable ASCII. -/
def bad (c : UInt8) : Bool := decide (c.toNat < 32) || decide (126 < c.toNat)

/-- What 'quotedStringEnd' answers, from place i on, the bytes that are left given. -/
def qend : List UInt8 → Nat → Int
  | [], _ => -1
  | [c], i => if c.toNat = 34 then (i : Int) + 1 else -1
  | c :: d :: ds, i => if c.toNat = 34 then (i : Int) + 1 else if c.toNat = 92 then (if bad d then -1 else qend ds (i + 2)) else if bad c then -1 else qend (d :: ds) (i + 1)

/-- What 'quotedEndByParity' answers, from place i on, behind 'run' backslashes. -/
def pend : List UInt8 → Nat → Nat → Int
  | [], _, _ => -1
  | c :: cs, i, run => if c.toNat = 34 ∧ run % 2 = 0 then (i : Int) + 1 else if bad c then -1 else pend cs (i + 1) (if c.toNat = 92 then run + 1 else 0)

theorem qend_quote (c : UInt8) (cs : List UInt8) (i : Nat) (h : c.toNat = 34) : qend (c :: cs) i = (i : Int) + 1 := by
  cases cs <;> simp [qend, h]
theorem qend_slash_end (c : UInt8) (i : Nat) (h : c.toNat = 92) : qend [c] i = -1 := by
  simp [qend, h]
theorem qend_slash_bad (c d : UInt8) (ds : List UInt8) (i : Nat) (h : c.toNat = 92) (hb : bad d = true) : qend (c :: d :: ds) i = -1 := by
  simp [qend, h, hb]
theorem qend_slash (c d : UInt8) (ds : List UInt8) (i : Nat) (h : c.toNat = 92) (hb : bad d = false) : qend (c :: d :: ds) i = qend ds (i + 2) := by
  simp [qend, h, hb]
theorem qend_bad (c : UInt8) (cs : List UInt8) (i : Nat) (h : c.toNat ≠ 34) (h2 : c.toNat ≠ 92) (hb : bad c = true) : qend (c :: cs) i = -1 := by
  cases cs <;> simp [qend, h, h2, hb]
theorem qend_plain (c : UInt8) (cs : List UInt8) (i : Nat) (h : c.toNat ≠ 34) (h2 : c.toNat ≠ 92) (hb : bad c = false) : qend (c :: cs) i = qend cs (i + 1) := by
  cases cs <;> simp [qend, h, h2, hb]

theorem pend_quote (c : UInt8) (cs : List UInt8) (i run : Nat) (h : c.toNat = 34) (hr : run % 2 = 0) : pend (c :: cs) i run = (i : Int) + 1 := by
  simp [pend, h, hr]
theorem pend_bad (c : UInt8) (cs : List UInt8) (i run : Nat) (h : ¬ (c.toNat = 34 ∧ run % 2 = 0)) (hb : bad c = true) : pend (c :: cs) i run = -1 := by
  rw [pend, if_neg h, if_pos hb]
theorem pend_step (c : UInt8) (cs : List UInt8) (i run : Nat) (h : ¬ (c.toNat = 34 ∧ run % 2 = 0)) (hb : bad c = false) : pend (c :: cs) i run = pend cs (i + 1) (if c.toNat = 92 then run + 1 else 0) := by
  rw [pend, if_neg h, if_neg (by simp [hb])]

theorem bad_quote (c : UInt8) (h : c.toNat = 34) : bad c = false := by simp [bad, h]
theorem bad_slash (c : UInt8) (h : c.toNat = 92) : bad c = false := by simp [bad, h]

theorem pend_even : ∀ (n : Nat) (l : List UInt8) (i run : Nat), l.length ≤ n → run % 2 = 0 → pend l i run = qend l i
  | _, [], _, _, _, _ => by simp [pend, qend]
  | 0, _ :: _, _, _, hl, _ => by simp at hl
  | n + 1, c :: cs, i, run, hl, hr => by
    have hl' : cs.length ≤ n := by simpa using hl
    by_cases h34 : c.toNat = 34
    · rw [pend_quote c cs i run h34 hr, qend_quote c cs i h34]
    by_cases h92 : c.toNat = 92
    · rw [pend_step c cs i run (fun e => h34 e.1) (bad_slash c h92), if_pos h92]
      cases cs with
      | nil => rw [qend_slash_end c i h92]; rfl
      | cons d ds =>
        have hl'' : ds.length ≤ n := by simp at hl'; omega
        by_cases hb : bad d = true
        · rw [pend_bad d ds (i + 1) (run + 1) (fun e => by omega) hb, qend_slash_bad c d ds i h92 hb]
        · have hb' : bad d = false := by simpa using hb
          rw [pend_step d ds (i + 1) (run + 1) (fun e => by omega) hb', qend_slash c d ds i h92 hb']
          by_cases hd : d.toNat = 92
          · rw [if_pos hd]; exact pend_even n ds (i + 1 + 1) (run + 1 + 1) hl'' (by omega)
          · rw [if_neg hd]; exact pend_even n ds (i + 1 + 1) 0 hl'' rfl
    · by_cases hb : bad c = true
      · rw [pend_bad c cs i run (fun e => h34 e.1) hb, qend_bad c cs i h34 h92 hb]
      · have hb' : bad c = false := by simpa using hb
        rw [pend_step c cs i run (fun e => h34 e.1) hb', if_neg h92, qend_plain c cs i h34 h92 hb']
        exact pend_even n cs (i + 1) 0 hl' rfl

theorem pend_eq (l : List UInt8) (i : Nat) : pend l i 0 = qend l i := pend_even l.length l i 0 (Nat.le_refl _) rfl

/-- The content, escaped. -/
def esc : List UInt8 → List UInt8
  | [] => []
  | c :: cs => if c.toNat = 34 ∨ c.toNat = 92 then 92 :: c :: esc cs else c :: esc cs

def anyBad : List UInt8 → Bool
  | [] => false
  | c :: cs => bad c || anyBad cs

theorem qend_esc : ∀ (l tail : List UInt8) (i : Nat), qend (esc l ++ 34 :: tail) i = if anyBad l then -1 else ((i + (esc l).length + 1 : Nat) : Int)
  | [], tail, i => by
    rw [esc, List.nil_append, qend_quote _ _ _ (by decide)]
    simp [anyBad]
  | c :: cs, tail, i => by
    by_cases h : c.toNat = 34 ∨ c.toNat = 92
    · have hb : bad c = false := by
        rcases h with h | h
        · exact bad_quote c h
        · exact bad_slash c h
      rw [esc, if_pos h, List.cons_append, List.cons_append, qend_slash 92 c _ i (by decide) hb, qend_esc cs tail (i + 2)]
      simp only [anyBad, hb, Bool.false_or, List.length_cons]
      by_cases ha : anyBad cs = true
      · rw [if_pos ha, if_pos ha]
      · rw [if_neg ha, if_neg ha]; congr 1; omega
    · have h34 : c.toNat ≠ 34 := fun e => h (.inl e)
      have h92 : c.toNat ≠ 92 := fun e => h (.inr e)
      rw [esc, if_neg h, List.cons_append]
      by_cases hb : bad c = true
      · rw [qend_bad c _ i h34 h92 hb]
        simp [anyBad, hb]
      · have hb' : bad c = false := by simpa using hb
        rw [qend_plain c _ i h34 h92 hb', qend_esc cs tail (i + 1)]
        simp only [anyBad, hb', Bool.false_or, List.length_cons]
        by_cases ha : anyBad cs = true
        · rw [if_pos ha, if_pos ha]
        · rw [if_neg ha, if_neg ha]; congr 1; omega

theorem esc_length : ∀ l : List UInt8, (esc l).length ≤ 2 * l.length
  | [] => by simp [esc]
  | c :: cs => by
    have := esc_length cs
    rw [esc]
    split <;> simp <;> omega

theorem esc_append : ∀ (l m : List UInt8), esc (l ++ m) = esc l ++ esc m
  | [], _ => rfl
  | c :: cs, m => by
    rw [List.cons_append, esc, esc, esc_append cs m]
    split <;> simp
theorem anyBad_append : ∀ (l m : List UInt8), anyBad (l ++ m) = (anyBad l || anyBad m)
  | [], _ => by simp [anyBad]
  | c :: cs, m => by rw [List.cons_append, anyBad, anyBad, anyBad_append cs m, Bool.or_assoc]

end Go.Proofs.Qxb6617165a
