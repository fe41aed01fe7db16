/-
  THE PLAIN LAW OF THE NumPy HEADER: lists of bytes alone, no Go.
-/
import Derived.Lib.Join
import Derived.Lib.Endian
import Derived.Lib.ItoaLen
import Derived.Lib.Repeat
namespace Go.Proofs.Qxb6616758aFmt

def magic : List UInt8 := [147, 78, 85, 77, 80, 89, 1, 0]
def dHead : List UInt8 := [123, 39, 100, 101, 115, 99, 114, 39, 58, 32, 39]
def dMid : List UInt8 := [39, 44, 32, 39, 102, 111, 114, 116, 114, 97, 110, 95, 111, 114, 100, 101, 114, 39, 58, 32, 70, 97, 108, 115, 101, 44, 32, 39, 115, 104, 97, 112, 101, 39, 58, 32, 40]
def dTail : List UInt8 := [41, 44, 32, 125]
/-- The shape, as a tuple's inside. -/
def tup (zs : List Int) : List UInt8 := Lib.join (zs.map Lib.itoa) [44, 32] ++ (if zs.length = 1 then [44] else [])
def dict (d t : List UInt8) : List UInt8 := dHead ++ (d ++ (dMid ++ (t ++ dTail)))
/-- How many blanks. -/
def padLen (n : Nat) : Nat := (n + 74) / 64 * 64 - 11 - n
def body (x : List UInt8) : List UInt8 := x ++ (List.replicate (padLen x.length) 32 ++ [10])
/-- The header behind a dictionary. -/
def hdrOf (x : List UInt8) : List UInt8 := magic ++ (Lib.leBytes 2 ((body x).length % 65536) ++ body x)
/-- The whole header. -/
def hdr (d : List UInt8) (zs : List Int) : List UInt8 := hdrOf (dict d (tup zs))

theorem leBytes2_length (v : Nat) : (Lib.leBytes 2 v).length = 2 := by simp [Lib.leBytes]
theorem dict_length (d t : List UInt8) : (dict d t).length = 52 + d.length + t.length := by
  simp [dict, dHead, dMid, dTail]; omega
theorem body_length (x : List UInt8) : (body x).length + 10 = (x.length + 74) / 64 * 64 := by
  simp [body, padLen]
  omega
theorem hdrOf_length (x : List UInt8) : (hdrOf x).length = (x.length + 74) / 64 * 64 := by
  have h := body_length x
  have h2 := leBytes2_length ((body x).length % 65536)
  simp [hdrOf, magic] at *
  omega
theorem hdr_length (d : List UInt8) (zs : List Int) : (hdr d zs).length = (52 + d.length + (tup zs).length + 74) / 64 * 64 := by
  rw [hdr, hdrOf_length, dict_length]
theorem hdr_mono (a b : List UInt8) (zs : List Int) (h : a.length ≤ b.length) : (hdr a zs).length ≤ (hdr b zs).length := by
  rw [hdr_length, hdr_length]
  omega

/-- 'holds s at place i'. -/
def At (L : List UInt8) (i : Nat) (s : List UInt8) : Prop := ∃ p q, L = p ++ (s ++ q) ∧ p.length = i

theorem At.le {L : List UInt8} {i : Nat} {s : List UInt8} (h : At L i s) : i + s.length ≤ L.length := by
  obtain ⟨p, q, rfl, rfl⟩ := h
  simp
theorem At.get {L : List UInt8} {i : Nat} {s : List UInt8} (h : At L i s) (j : Nat) (hj : j < s.length) : L[i + j]? = s[j]? := by
  obtain ⟨p, q, rfl, rfl⟩ := h
  rw [List.getElem?_append_right (by omega), show p.length + j - p.length = j by omega, List.getElem?_append_left hj]

theorem hdr_magic (d : List UInt8) (zs : List Int) : At (hdr d zs) 0 magic := ⟨[], _, rfl, rfl⟩
theorem hdr_head (d : List UInt8) (zs : List Int) : At (hdr d zs) 10 dHead := by
  refine ⟨magic ++ Lib.leBytes 2 ((body (dict d (tup zs))).length % 65536), d ++ (dMid ++ (tup zs ++ dTail)) ++ (List.replicate (padLen (dict d (tup zs)).length) 32 ++ [10]), ?_, ?_⟩
  · simp only [hdr, hdrOf, body, dict, List.append_assoc]
  · simp [magic, leBytes2_length]
theorem hdr_descr (d : List UInt8) (zs : List Int) : At (hdr d zs) 21 d := by
  refine ⟨magic ++ (Lib.leBytes 2 ((body (dict d (tup zs))).length % 65536) ++ dHead), (dMid ++ (tup zs ++ dTail)) ++ (List.replicate (padLen (dict d (tup zs)).length) 32 ++ [10]), ?_, ?_⟩
  · simp only [hdr, hdrOf, body, dict, List.append_assoc]
  · simp [magic, leBytes2_length, dHead]

/-- Outside the descr two headers of descrs of one length agree. -/
theorem hdr_agree (a b : List UInt8) (zs : List Int) (h : a.length = b.length) (i : Nat) (hi : i < 21 ∨ 21 + a.length ≤ i) : (hdr a zs)[i]? = (hdr b zs)[i]? := by
  have hd : (dict a (tup zs)).length = (dict b (tup zs)).length := by rw [dict_length, dict_length, h]
  have hb : (body (dict a (tup zs))).length = (body (dict b (tup zs))).length := by
    have h1 := body_length (dict a (tup zs))
    have h2 := body_length (dict b (tup zs))
    rw [hd] at h1
    omega
  generalize hLen : (body (dict b (tup zs))).length = len at hb
  have ea : hdr a zs = (magic ++ (Lib.leBytes 2 (len % 65536) ++ dHead)) ++ (a ++ ((dMid ++ (tup zs ++ dTail)) ++ (List.replicate (padLen (dict b (tup zs)).length) 32 ++ [10]))) := by
    simp only [hdr, hdrOf, hb]
    rw [body, hd]
    simp only [dict, List.append_assoc]
  have eb : hdr b zs = (magic ++ (Lib.leBytes 2 (len % 65536) ++ dHead)) ++ (b ++ ((dMid ++ (tup zs ++ dTail)) ++ (List.replicate (padLen (dict b (tup zs)).length) 32 ++ [10]))) := by
    simp only [hdr, hdrOf, hLen]
    rw [body]
    simp only [dict, List.append_assoc]
  have hp : (magic ++ (Lib.leBytes 2 (len % 65536) ++ dHead)).length = 21 := by simp [magic, leBytes2_length, dHead]
  rw [ea, eb]
  generalize magic ++ (Lib.leBytes 2 (len % 65536) ++ dHead) = p at hp
  generalize (dMid ++ (tup zs ++ dTail)) ++ (List.replicate (padLen (dict b (tup zs)).length) 32 ++ [10]) = q
  rcases hi with hi | hi
  · rw [List.getElem?_append_left (by omega), List.getElem?_append_left (by omega)]
  · rw [List.getElem?_append_right (by omega), List.getElem?_append_right (by omega), List.getElem?_append_right (by omega), List.getElem?_append_right (by omega), h]

theorem tup_length (zs : List Int) (hz : ∀ z ∈ zs, -9223372036854775808 ≤ z ∧ z ≤ 9223372036854775807) : (tup zs).length ≤ 23 * zs.length + 1 := by
  have hj : ∀ (l : List Int), (∀ z ∈ l, -9223372036854775808 ≤ z ∧ z ≤ 9223372036854775807) → (Lib.joinTail [44, 32] (l.map Lib.itoa)).length ≤ 23 * l.length := by
    intro l
    induction l with
    | nil => intro _; simp [Lib.joinTail]
    | cons z l ih =>
      intro h
      have h1 := ih (fun y hy => h y (List.mem_cons_of_mem _ hy))
      have h2 := Lib.itoa_length_le z (h z (by simp)).1 (h z (by simp)).2
      simp only [Lib.joinTail, List.map_cons, List.flatten_cons, List.length_append, List.length_cons, List.length_nil] at h1 ⊢
      omega
  unfold tup
  rw [List.length_append]
  have h1 : (if zs.length = 1 then [44] else ([] : List UInt8)).length ≤ 1 := by split <;> simp
  cases zs with
  | nil => simp [Lib.join_nil]
  | cons z l =>
    rw [List.map_cons, Lib.join_cons, List.length_append]
    have h2 := Lib.itoa_length_le z (hz z (by simp)).1 (hz z (by simp)).2
    have h3 := hj l (fun y hy => hz y (List.mem_cons_of_mem _ hy))
    simp only [List.length_cons] at h1 ⊢
    omega

theorem repeat_blank (c : Nat) : Lib.repeatL [32] c = List.replicate c 32 := by
  induction c with
  | zero => rfl
  | succ c ih => rw [Lib.repeatL, ih, List.replicate_succ]; rfl

end Go.Proofs.Qxb6616758aFmt
