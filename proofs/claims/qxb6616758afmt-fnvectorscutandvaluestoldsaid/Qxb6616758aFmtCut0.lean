import Derived.Test.Qxb6616758aFmtLaw5
import Derived.Test.Qxb6616758aFmtWord2
/- What the law FnVectorsCutAndValues stands on. -/
namespace Go.Proofs.Qxb6616758aFmt
open Go.RowKit Go.Stop

theorem bytes_of2 {w : World} {B : Nat} {v : Value} {L : List UInt8} (h : w.ownsRow B 5 1 v (Lib.byteCells L).length (Lib.byteCells L)) (hL : 0 < L.length) :
    ∃ g c, v = .slice (some ⟨g, 0, none⟩) L.length c ∧ Bytes w ⟨g, 0, none⟩ L ∧ L.length ≤ c := by
  obtain ⟨g, c, hv, hb⟩ := bytes_of h hL
  refine ⟨g, c, hv, hb, ?_⟩
  rcases h.2 with ⟨_, h0⟩ | ⟨g', c', cur, hv', _, _, hnc, _⟩
  · rw [Lib.byteCells_length] at h0; omega
  · rw [hv] at hv'
    injection hv' with _ _ e
    rw [Lib.byteCells_length] at hnc
    omega

theorem bytes16_at2 {b : Nat} {L : List UInt8} (w2 : World) (h : Lib.IsBuffer 41 5 b b (Lib.byteCells L) w2) (hL : 0 < L.length) :
    Calls Tryf.prog 16 #[.pointer (some ⟨b, 0, none⟩)] w2.drew fun e w3 => ∃ g c, e = .returned (.slice (some ⟨g, 0, none⟩) L.length c) ∧ Bytes w3 ⟨g, 0, none⟩ L ∧ L.length ≤ c ∧ Below w2.heap.size w2 w3 := by
  refine (Tryf.Buffer_Bytes b b _ w2.drew h).mono ?_
  rintro e w3 ⟨v, rfl, ho, n, hw3⟩
  obtain ⟨g, c, hv, hcells, hc⟩ := bytes_of2 ho hL
  rw [hv]
  exact ⟨g, c, rfl, hcells, hc, by rw [hw3]; exact below_drewN (Below.refl _ _).drew n⟩

set_option maxHeartbeats 800000 in
set_option maxRecDepth 100000 in
theorem zzv_any2 (F : Interp) (ia : Option Addr) (n ic : Nat) (oa : Option Addr) (ol oc : Nat) (dim : Nat) (va : Option Addr) (vlen vcap : Nat) (xs : List Nat) (w : World) (hF : F.told.answers w.tape) (htab : TabOk w)
    (hn : n ≤ 65536) (hd : dim ≤ 65536) (hv : Hid (n * dim ≤ vlen)) (hvc : vlen ≤ vcap) (hv2 : vlen ≤ 262144) (hx : Hid (xs.length = n * dim)) (hfl : Floats w w.heap.size va xs) :
    Calls Tryf.prog 10 #[.slice ia n ic, .slice oa ol oc, .int .i64 dim, .slice va vlen vcap] w fun e w' => ∃ g c, e = .returned (.tuple #[.slice (some ⟨g, 0, none⟩) (file n dim xs).length c, .bool false]) ∧ Bytes w' ⟨g, 0, none⟩ (file n dim xs) ∧ (file n dim xs).length ≤ c ∧ Below w.heap.size w w' := by
  obtain ⟨w1, hw1⟩ : ∃ w1, (w.alloc (.cells #[.slice none 0 0, .int .i64 0, .int .i8 0] 41)).alloc (.cells #[.slice ia n ic, .slice oa ol oc, .int .i64 dim, .slice va vlen vcap] 47) = w1 := ⟨_, rfl⟩
  have hb0 : Below w.heap.size w (w.alloc (.cells #[.slice none 0 0, .int .i64 0, .int .i8 0] 41)) := (Below.refl _ _).alloc (Nat.le_refl _) _
  have hb1 : Below w.heap.size w w1 := by rw [← hw1]; exact hb0.alloc (by simp) _
  have hbb : Below (w.alloc (.cells #[.slice none 0 0, .int .i64 0, .int .i8 0] 41)).heap.size (w.alloc (.cells #[.slice none 0 0, .int .i64 0, .int .i8 0] 41)) w1 := by rw [← hw1]; exact (Below.refl _ _).alloc (Nat.le_refl _) _
  have hbuf : Lib.IsBuffer 41 5 w.heap.size w.heap.size [] w1 := buf_below (Lib.fresh_isBuffer 41 5 w) hbb
  have hnil : ∃ lr, w1.heap[w.heap.size]? = some (.cells #[.slice none 0 0, .int .i64 0, .int .i8 lr] 41 (0, 0)) := ⟨0, by rw [hbb.block _ (by simp)]; exact heap_alloc_new w _⟩
  have hs : SetBlock w1 (w.heap.size + 1) ia n ic (.slice oa ol oc) dim va vlen vcap := by
    have := heap_alloc_new (w.alloc (.cells #[.slice none 0 0, .int .i64 0, .int .i8 0] 41)) (.cells #[.slice ia n ic, .slice oa ol oc, .int .i64 dim, .slice va vlen vcap] 47)
    rw [hw1] at this
    simpa [SetBlock] using this
  have hfl1 := hfl.below hb1
  have hF1 : F.told.answers w1.tape := by rw [hb1.tape]; exact hF
  have ht1 := htab.below hb1
  have hcall := wv_any F w.heap.size (w.heap.size + 1) ia n ic (.slice oa ol oc) dim va vlen vcap xs w1 hF1 ht1 hbuf hnil hs (by omega) hn hd hv.out hvc hv2 hx hfl1
  have hL : 0 < (file n dim xs).length := by
    have := hl2 n dim hn hd
    unfold file
    rw [List.length_append]
    omega
  have HL := Lib.hid hL
  clear hL hnil hs hfl1 hF1 ht1 hbuf hbb hb0 hfl htab hF
  go_enter Tryf.func10, Tryf.ntmps10
  go_wp2_with fail
  refine hcall.mono ?_
  rintro e w2 ⟨rfl, hbuf2, hb2⟩
  have hB2 : Below w.heap.size w w2 := hb1.trans hb2
  clear hb1 hb2 hcall hw1
  go_wp2_with fail
  go_region_with (go_at_call 16; refine (bytes16_at2 (L := file n dim xs) w2 hbuf2 HL.out).mono ?_; rintro e w3 ⟨g, c, rfl, hcells, hgc, hb3⟩)
  all_goals (
    go_wp2_with fail
    go_ret2
    exact ⟨g, c, rfl, hcells, hgc, hB2.trans (hb3.mono hB2.size)⟩)

set_option maxHeartbeats 1600000 in
set_option maxRecDepth 100000 in
theorem bytes9_any (ia : Option Addr) (n ic : Nat) (ss : List ByteArray) (oa : Option Addr) (ol oc : Nat) (d : Int) (va : Option Addr) (vl vc : Nat) (k0 : Int) (w : World) (hs : Sl w ia (strs ss)) (hn : ss.length = n) :
    Calls Tryf.prog 9 #[.slice ia n ic, .slice oa ol oc, .int .i64 d, .slice va vl vc, .int .i64 k0] w fun e w' => ∃ t, e = .returned (.bool t) ∧ (t = true → n ≤ 1048576 ∧ ∀ s ∈ ss, s.size ≤ 1048576) ∧ w' = w := by
  by_cases h1 : 1048576 < n
  · go_enter Tryf.func9, Tryf.ntmps9
    go_wp2_with fail
    go_ret
    exact ⟨_, rfl, by simp, rfl⟩
  · have HN : Hid (ss.length = n) := hn
    clear hn
    go_enter Tryf.func9, Tryf.ntmps9
    go_wp2_with fail
    go_loopw [11, 12] (fun z i wr => ∃ k : Nat, k ≤ n ∧ i = .int .i64 k ∧ (∃ y : Int, z = .int .i64 y ∧ 0 ≤ y ∧ y ≤ 1048576) ∧ Hid (∀ j, j < k → (ss.getD j ⟨#[]⟩).size ≤ 1048576) ∧ wr = w) (fun _ i _ => n - (intOf i).toNat)
    case atStart => exact ⟨0, Nat.zero_le _, rfl, ⟨_, rfl, by omega, by omega⟩, fun j hj => absurd hj (by omega), rfl⟩
    case round =>
      obtain ⟨k, hk, rfl, ⟨y, rfl, hy0, hy1⟩, HS, rfl⟩ := hrel
      by_cases hlt : k < n
      · have hkk : (strs ss)[k]? = some (.string (ss.getD k ⟨#[]⟩)) := by
          have : k < ss.length := by rw [HN.out]; exact hlt
          simp [strs, List.getD, this]
        obtain ⟨b, off, rfl, hc⟩ := hs.at k _ hkk
        obtain ⟨s, hss⟩ : ∃ s, s = ss.getD k ⟨#[]⟩ := ⟨_, rfl⟩
        rw [← hss] at hc
        have HSS := Lib.hid hss
        clear hss hkk
        by_cases hbig : 1048576 < s.size
        · go_wp2_with fail
          go_ret
          exact ⟨_, rfl, by simp, rfl⟩
        · by_cases hsum : 1048576 < y + s.size
          · go_wp2_with fail
            go_ret
            exact ⟨_, rfl, by simp, rfl⟩
          · go_wp2_with fail
            go_roundw
            case rel =>
              refine ⟨k + 1, by omega, by go_num, ⟨_, rfl, by omega, by omega⟩, fun j hj => ?_, by first | trivial | rfl⟩
              rcases Nat.lt_or_ge j k with h | h
              · exact HS.out j h
              · obtain rfl : j = k := by omega
                rw [← HSS.out]
                omega
            case measure => simp [intOf]; omega
      · obtain rfl : k = n := by omega
        have hall : Hid (∀ s ∈ ss, s.size ≤ 1048576) := by
          show ∀ s ∈ ss, s.size ≤ 1048576
          intro s hs'
          obtain ⟨j, hj, rfl⟩ := List.mem_iff_getElem.1 hs'
          have := HS.out j (by rw [← HN.out]; exact hj)
          simpa [List.getD, hj] using this
        go_wp2_with fail
        all_goals (go_ret; exact ⟨_, rfl, fun _ => ⟨by omega, hall.out⟩, rfl⟩)

/-- Where 'x[k:]' begins. -/
def lowA (a : Option Addr) (cap k : Nat) : Option Addr := if cap = k then a else a.map (·.add k)

theorem run_low (t : TypeId) (ht : Tryf.prog.underlying t = some (.slice (Tryf.prog.elem t))) (hz : ∀ W, (sizeOf (Tryf.prog.elem t)).run Tryf.prog W = .ok 1 W) (a : Option Addr) (len cap k : Nat) (hk : k ≤ len) (W : World) :
    (Instr.slice t (.slice a len cap) (some (.int .i64 (k : Int))) none none).run Tryf.prog W = .ok (.slice (lowA a cap k) (len - k) (cap - k)) W := by
  rw [run_slice_l W t a len cap ht .i64 (k : Int) (by omega) (by omega), hz W]
  simp [Result.andThen, sliced, lowA]

end Go.Proofs.Qxb6616758aFmt
