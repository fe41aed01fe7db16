import Derived.Test.Qxb6616758aFmtVec
namespace Go.Proofs.Qxb6616758aFmt
open Go.RowKit Go.Stop

/-- The file that writeVectors writes. -/
def file (n dim : Nat) (xs : List Nat) : List UInt8 := hdr [60, 102, 52] [(n : Int), (dim : Int)] ++ words xs

theorem bytes16_at {b : Nat} {L : List UInt8} (w2 : World) (h : Lib.IsBuffer 41 5 b b (Lib.byteCells L) w2) (hL : 0 < L.length) :
    Calls Tryf.prog 16 #[.pointer (some ⟨b, 0, none⟩)] w2.drew fun e w3 => ∃ g c, e = .returned (.slice (some ⟨g, 0, none⟩) L.length c) ∧ Bytes w3 ⟨g, 0, none⟩ L ∧ Below w2.heap.size w2 w3 := by
  refine (Tryf.Buffer_Bytes b b _ w2.drew h).mono ?_
  rintro e w3 ⟨v, rfl, ho, n, hw3⟩
  obtain ⟨g, c, hv, hcells⟩ := bytes_of ho hL
  rw [hv]
  exact ⟨g, c, rfl, hcells, by rw [hw3]; exact below_drewN (Below.refl _ _).drew n⟩

set_option maxHeartbeats 800000 in
set_option maxRecDepth 100000 in
theorem zzv_any (F : Interp) (ia : Option Addr) (n ic : Nat) (oa : Option Addr) (ol oc : Nat) (dim : Nat) (va : Option Addr) (vlen vcap : Nat) (xs : List Nat) (w : World) (hF : F.told.answers w.tape) (htab : TabOk w)
    (hn : n ≤ 65536) (hd : dim ≤ 65536) (hv : Hid (n * dim ≤ vlen)) (hvc : vlen ≤ vcap) (hv2 : vlen ≤ 262144) (hx : Hid (xs.length = n * dim)) (hfl : Floats w w.heap.size va xs) :
    Calls Tryf.prog 10 #[.slice ia n ic, .slice oa ol oc, .int .i64 dim, .slice va vlen vcap] w fun e w' => ∃ g c, e = .returned (.tuple #[.slice (some ⟨g, 0, none⟩) (file n dim xs).length c, .bool false]) ∧ Bytes w' ⟨g, 0, none⟩ (file n dim xs) ∧ Below w.heap.size w w' := by
  obtain ⟨w1, hw1⟩ : ∃ w1, (w.alloc (.cells #[.slice none 0 0, .int .i64 0, .int .i8 0] 41)).alloc (.cells #[.slice ia n ic, .slice oa ol oc, .int .i64 dim, .slice va vlen vcap] 47) = w1 := ⟨_, rfl⟩
  have hb0 : Below w.heap.size w (w.alloc (.cells #[.slice none 0 0, .int .i64 0, .int .i8 0] 41)) := (Below.refl _ _).alloc (Nat.le_refl _) _
  have hb1 : Below w.heap.size w w1 := by rw [← hw1]; exact hb0.alloc (by simp) _
  have hbb : Below (w.alloc (.cells #[.slice none 0 0, .int .i64 0, .int .i8 0] 41)).heap.size (w.alloc (.cells #[.slice none 0 0, .int .i64 0, .int .i8 0] 41)) w1 := by rw [← hw1]; exact (Below.refl _ _).alloc (Nat.le_refl _) _
  have hbuf : Lib.IsBuffer 41 5 w.heap.size w.heap.size [] w1 := buf_below (Lib.fresh_isBuffer 41 5 w) hbb
  have hnil : ∃ lr, w1.heap[w.heap.size]? = some (.cells #[.slice none 0 0, .int .i64 0, .int .i8 lr] 41 (0, 0)) := ⟨0, by rw [hbb.block _ (by simp)]; exact heap_alloc_new w _⟩
  have hs : SetBlock w1 (w.heap.size + 1) ia n ic (.slice oa ol oc) dim va vlen vcap := by
    have := heap_alloc_new (w.alloc (.cells #[.slice none 0 0, .int .i64 0, .int .i8 0] 41)) (.cells #[.slice ia n ic, .slice oa ol oc, .int .i64 dim, .slice va vlen vcap] 47)
    rw [hw1] at this
    simpa [SetBlock] using this
  have hfl1 := hfl.below hb1
  have hF1 : F.told.answers w1.tape := by rw [hb1.tape]; exact hF
  have ht1 := htab.below hb1
  have hcall := wv_any F w.heap.size (w.heap.size + 1) ia n ic (.slice oa ol oc) dim va vlen vcap xs w1 hF1 ht1 hbuf hnil hs (by omega) hn hd hv.out hvc hv2 hx hfl1
  have hL : 0 < (file n dim xs).length := by
    have := hl2 n dim hn hd
    unfold file
    rw [List.length_append]
    omega
  have HL := Lib.hid hL
  clear hL hnil hs hfl1 hF1 ht1 hbuf hbb hb0 hfl htab hF
  go_enter Tryf.func10, Tryf.ntmps10
  go_wp2_with fail
  refine hcall.mono ?_
  rintro e w2 ⟨rfl, hbuf2, hb2⟩
  have hB2 : Below w.heap.size w w2 := hb1.trans hb2
  clear hb1 hb2 hcall hw1
  go_wp2_with fail
  go_region_with (go_at_call 16; refine (bytes16_at (L := file n dim xs) w2 hbuf2 HL.out).mono ?_; rintro e w3 ⟨g, c, rfl, hcells, hb3⟩)
  all_goals (
    go_wp2_with fail
    go_ret2
    exact ⟨g, c, rfl, hcells, hB2.trans (hb3.mono hB2.size)⟩)

end Go.Proofs.Qxb6616758aFmt
