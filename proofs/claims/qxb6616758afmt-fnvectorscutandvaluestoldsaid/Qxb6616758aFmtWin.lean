import Derived.Test.Qxb6616758aFmtHdr
namespace Go.Proofs.Qxb6616758aFmt
open Go.RowKit Go.Stop

/-- A slice of bytes whose elements are L. -/
def Bytes (w : World) (x : Addr) (L : List UInt8) : Prop := ∀ j c, L[j]? = some c → w.cell? (x.add j) = some (.int .u8 (c.toNat : Int))

theorem Bytes.below {w w' : World} {x : Addr} {L : List UInt8} (h : Bytes w x L) (hb : Below w.heap.size w w') : Bytes w' x L := fun j c hc => cell_later hb (h j c hc)

/-- What 'Bytes()' hands back, where something was written. -/
theorem bytes_of {w : World} {B : Nat} {v : Value} {L : List UInt8} (h : w.ownsRow B 5 1 v (Lib.byteCells L).length (Lib.byteCells L)) (hL : 0 < L.length) :
    ∃ g c, v = .slice (some ⟨g, 0, none⟩) L.length c ∧ Bytes w ⟨g, 0, none⟩ L := by
  rcases h.2 with ⟨_, h0⟩ | ⟨g, c, cur, rfl, _⟩
  · rw [Lib.byteCells_length] at h0; omega
  · refine ⟨g, c, by rw [Lib.byteCells_length], fun j x hx => ?_⟩
    have hj : j < L.length := (List.getElem?_eq_some_iff.1 hx).1
    have := h.cellAt j (by rw [Lib.byteCells_length]; omega)
    rw [add_at, Nat.zero_add, this]
    simp [Lib.byteCells, hx]

set_option maxHeartbeats 800000 in
set_option maxRecDepth 100000 in
theorem zznpy_any (F : Interp) (d : ByteArray) (a : Option Addr) (len cap : Nat) (zs : List Int) (w : World) (hF : F.told.answers w.tape) (htab : TabOk w) (hd : d.size ≤ 1048576) (hlen : len ≤ 65536) (hz : Ints w a len zs) :
    Calls Tryf.prog 7 #[.string d, .slice a len cap] w fun e w' => ∃ g c, e = .returned (.slice (some ⟨g, 0, none⟩) (hdr d.data.toList zs).length c) ∧ Bytes w' ⟨g, 0, none⟩ (hdr d.data.toList zs) ∧ Below w.heap.size w w' := by
  have hb1 : Below w.heap.size w (w.alloc (.cells #[.slice none 0 0, .int .i64 0, .int .i8 0] 41)) := (Below.refl _ _).alloc (Nat.le_refl _) _
  have hbuf := Lib.fresh_isBuffer 41 5 w
  have hz1 := hz.below hb1
  have ht1 := htab.below hb1
  have hF1 : F.told.answers (w.alloc (.cells #[.slice none 0 0, .int .i64 0, .int .i8 0] 41)).tape := hF
  clear hz htab hF
  go_enter Tryf.func7, Tryf.ntmps7
  go_wp2_with fail
  refine (npy_buf F w.heap.size w.heap.size [] d a len cap zs _ hF1 ht1 hbuf (by simp) (by simp) (by simp) hd hlen hz1).mono ?_
  rintro e w2 ⟨rfl, hbuf2, hb2⟩
  rw [List.nil_append] at hbuf2
  have hB2 : Below w.heap.size w w2 := hb1.trans hb2
  go_wp2_with fail
  refine (Tryf.Buffer_Bytes w.heap.size w.heap.size _ w2 hbuf2).mono ?_
  rintro e w3 ⟨v, rfl, ho, n, hw3⟩
  have hB3 : Below w.heap.size w w3 := by rw [hw3]; exact below_drewN hB2 n
  obtain ⟨g, c, hv, hcells⟩ : ∃ g c, v = .slice (some ⟨g, 0, none⟩) (hdr d.data.toList zs).length c ∧ Bytes w3 ⟨g, 0, none⟩ (hdr d.data.toList zs) := bytes_of ho (by rw [hdr_length]; omega)
  rw [hv]
  clear ho hw3 hbuf2 hb2
  go_wp2_with fail
  go_ret
  exact ⟨g, c, rfl, hcells, hB3⟩

end Go.Proofs.Qxb6616758aFmt
