import Derived.Test.Qxb6616758aFmtVec0
import Derived.Deep.CutRange
namespace Go.Proofs.Qxb6616758aFmt
open Go.RowKit Go.Stop

/-- The Set's block. -/
def SetBlock (w : World) (s : Nat) (ia : Option Addr) (n ic : Nat) (occ : Value) (dim : Nat) (va : Option Addr) (vlen vcap : Nat) : Prop := w.heap[s]? = some (.cells #[.slice ia n ic, occ, .int .i64 dim, .slice va vlen vcap] 47 (0, 0))

theorem SetBlock.cells {w : World} {s : Nat} {ia : Option Addr} {n ic : Nat} {occ : Value} {dim : Nat} {va : Option Addr} {vlen vcap : Nat} (h : SetBlock w s ia n ic occ dim va vlen vcap) :
    w.cell? ⟨s, 0, none⟩ = some (.slice ia n ic) ∧ w.cell? ⟨s, 2, none⟩ = some (.int .i64 dim) ∧ w.cell? ⟨s, 3, none⟩ = some (.slice va vlen vcap) := by
  refine ⟨?_, ?_, ?_⟩ <;> (rw [Lib.cell_of_heap h]; rfl)

theorem SetBlock.fr {w w' : World} {B bw b s : Nat} {ia : Option Addr} {n ic : Nat} {occ : Value} {dim : Nat} {va : Option Addr} {vlen vcap : Nat} (h : SetBlock w s ia n ic occ dim va vlen vcap) (hf : Fr B bw b w w') (h1 : s ≠ bw) (h2 : s ≠ b) : SetBlock w' s ia n ic occ dim va vlen vcap :=
  hf.2 s _ h h1 h2 (by simp)

set_option maxHeartbeats 1600000 in
set_option maxRecDepth 100000 in
theorem wv_any (F : Interp) (b s : Nat) (ia : Option Addr) (n ic : Nat) (occ : Value) (dim : Nat) (va : Option Addr) (vlen vcap : Nat) (xs : List Nat) (w : World) (hF : F.told.answers w.tape) (htab : TabOk w)
    (hB : Lib.IsBuffer 41 5 b b [] w) (hnil : ∃ lr, w.heap[b]? = some (.cells #[.slice none 0 0, .int .i64 0, .int .i8 lr] 41 (0, 0))) (hs : SetBlock w s ia n ic occ dim va vlen vcap) (hsb : s ≠ b)
    (hn : n ≤ 65536) (hd : dim ≤ 65536) (hv : n * dim ≤ vlen) (hvc : vlen ≤ vcap) (hv2 : vlen ≤ 262144) (hx : Hid (xs.length = n * dim)) (hfl : Floats w b va xs) :
    Calls Tryf.prog 17 #[.pointer (some ⟨s, 0, none⟩), .iface 43 (.pointer (some ⟨b, 0, none⟩))] w fun e w' => e = .returned .nilIface ∧ Lib.IsBuffer 41 5 b b (Lib.byteCells (hdr [60, 102, 52] [(n : Int), (dim : Int)] ++ words xs)) w' ∧ Below b w w' := by
  have hsl := lt_of_block hs
  have hbl := hB.lt
  obtain ⟨N, hN⟩ : ∃ N, N = n * dim := ⟨_, rfl⟩
  have hNi : (n : Int) * (dim : Int) = (N : Int) := by rw [hN]; push_cast; rfl
  rw [← hN] at hv hx
  have HN : Hid (N = n * dim) := hN
  clear hN
  go_enter Tryf.func17, Tryf.ntmps17
  go_wp2_with fail
  refine (new_any b w hB hnil).mono ?_
  rintro e w1 ⟨bw, r, rfl, hbw1, hbg1, hb1, hge⟩
  have hsbw : s ≠ bw := by omega
  have hF1 : F.told.answers w1.tape := by rw [hb1.tape]; exact hF
  have ht1 := htab.below hb1
  have hs1 : SetBlock w1 s ia n ic occ dim va vlen vcap := (hb1.block s hsl).trans hs
  obtain ⟨c0, c2, c3⟩ := hs1.cells
  have hfl1 := hfl.below (hb1.mono (Nat.le_of_lt hbl))
  clear hfl
  go_upto_region 2 with fail
  go_cut [23] from 11 to 23 (fun _ wx => St bw r b (Lib.byteCells (hdr [60, 102, 52] [(n : Int), (dim : Int)])) wx ∧ Fr b bw b w1 wx)
  case first =>
    go_region_with (go_at_call 15; refine (npy_at F bw r b n dim w1 hF1 ht1 hbw1 hbg1 hn hd).mono ?_; rintro e w2 ⟨rfl, hst2, hfr2⟩)
    all_goals (go_wp2_with fail; go_meet; exact ⟨hst2, hfr2⟩)
  case rest =>
    obtain ⟨hst2, hfr2⟩ := hcut
    have hs2 := hs1.fr hfr2 hsbw hsb
    have hfl2 := hfl1.below hfr2.1
    have hbs2 : b ≤ wc.heap.size := Nat.le_trans hbw1.hBs hfr2.1.size
    have hbw2 : bw < wc.heap.size := Nat.lt_of_lt_of_le (lt_of_block hbw1.blk) hfr2.1.size
    have hB2 : Below b w wc := (hb1.mono (Nat.le_of_lt hbl)).trans hfr2.1
    have hbw2' : b < wc.heap.size := by have := hb1.size; have := hfr2.1.size; omega
    clear hs1 c0 c2 c3 hfl1 hbw1 hbg1 ht1 hF1 hs
    obtain ⟨w3, hw3⟩ : ∃ w3, wc.alloc (.cells #[.int .u8 0, .int .u8 0, .int .u8 0, .int .u8 0] 70) = w3 := ⟨_, rfl⟩
    have hb3 : Below wc.heap.size wc w3 := by rw [← hw3]; exact (Below.refl _ _).alloc (Nat.le_refl _) _
    have hg3 : w3.heap[wc.heap.size]? = some (.cells #[.int .u8 0, .int .u8 0, .int .u8 0, .int .u8 0] 70 (0, 0)) := by rw [← hw3]; exact heap_alloc_new wc _
    have hs3 : SetBlock w3 s ia n ic occ dim va vlen vcap := (hb3.block s (lt_of_block hs2)).trans hs2
    have hst3 := hst2.below hb3
    have hfl3 := hfl2.below (hb3.mono hbs2)
    have hB3 : Below b w w3 := hB2.trans (hb3.mono hbs2)
    obtain ⟨c0, c2, c3⟩ := hs3.cells
    clear hst2 hfl2 hs2 hs3 hB2
    generalize hg4 : wc.heap.size = g4 at *
    have hgw : g4 ≠ bw := by omega
    have hgb : g4 ≠ b := by omega
    go_wp2_with fail
    go_quiet (fail)
    go_wp2_with fail
    go_loopw [40, 8] (fun i _ wr => ∃ k : Nat, k ≤ N ∧ i = .int .i64 k ∧ Below b w wr ∧ Floats wr b va xs ∧ St bw r b (Lib.byteCells (hdr [60, 102, 52] [(n : Int), (dim : Int)] ++ words (xs.take k))) wr ∧ ∃ x0 x1 x2 x3, wr.heap[g4]? = some (.cells #[x0, x1, x2, x3] 70 (0, 0))) (fun i _ _ => N - (intOf i).toNat)
    case atStart =>
      refine ⟨0, Nat.zero_le _, rfl, below_drewN hB3 _, hfl3.below (below_drewN (Below.refl _ _) _), ?_, _, _, _, _, hg3⟩
      have h0 : Lib.byteCells (hdr [60, 102, 52] [(n : Int), (dim : Int)] ++ words (xs.take 0)) = Lib.byteCells (hdr [60, 102, 52] [(n : Int), (dim : Int)]) := by simp [words]
      rw [h0]
      exact hst3.same rfl
    case round =>
      clear hst3 hfl3 hB3 c0 c2 c3 hw3 hb3 hg3 hfr2 hb1 hge
      obtain ⟨k, hk, rfl, hBr, hflr, hstr, x0, x1, x2, x3, hgr⟩ := hrel
      by_cases hlt : k < N
      · obtain ⟨vb, voff, rfl, hcv, hvb⟩ := hflr.at k (by rw [hx.out]; exact hlt)
        obtain ⟨x, hxx⟩ : ∃ x, x = xs.getD k 0 := ⟨_, rfl⟩
        rw [← hxx] at hcv hvb
        have HX : Hid (x = xs.getD k 0) := hxx
        clear hxx
        have hfb := bits26
        have hlen := len_st n dim k xs hn hd (by rw [hx.out]; omega)
        have Hlen : Hid ((Lib.byteCells (hdr [60, 102, 52] [(n : Int), (dim : Int)] ++ words (xs.take k))).length ≤ 8589934592) := hlen.2
        clear hlen
        go_wp2_with fail
        go_region_with (go_at_call 25; refine (put32_at g4 x hvb x0 x1 x2 x3 wr hgr).mono ?_; rintro e w5 ⟨rfl, hg5, hk5, hb5⟩)
        all_goals (
          have hst5 := hstr.keep hgr hk5 hb5.size
          have hfl5 := hflr.below (hb5.mono hbs2)
          have hB5 := hBr.trans (hb5.mono hbs2)
          clear hcv hfb hstr hflr hBr hgr hk5
          go_wp2_with fail
          refine (word_st bw r b g4 x _ w5 hst5 hgw hgb Hlen.out hg5).mono ?_
          rintro e w6 ⟨rfl, hst6, hfr6⟩
          have hg6 := hfr6.2 g4 _ hg5 hgw hgb (by simp)
          have hst6' : Hid (St bw r b (Lib.byteCells (hdr [60, 102, 52] [(n : Int), (dim : Int)] ++ words (xs.take (k + 1)))) w6) := st_succ (by rw [hx.out]; exact hlt) (by rw [← HX.out]; exact hst6)
          clear hst6 hst5 hg5 hb5
          go_wp2_with fail
          go_roundw
          case rel => exact ⟨k + 1, by omega, by go_num, hB5.trans hfr6.1, hfl5.below hfr6.1, hst6'.out, _, _, _, _, hg6⟩
          case measure => simp [intOf]; omega)
      · obtain rfl : k = N := by omega
        have hlen := len_st n dim k xs hn hd (by rw [hx.out]; omega)
        have ht : xs.take k = xs := List.take_of_length_le (by rw [hx.out]; exact Nat.le_refl _)
        rw [ht] at hstr hlen
        have Hlen := Lib.hid hlen
        clear hlen ht
        go_wp2_with fail
        refine (flush_st bw r b _ _ hstr Hlen.out.1 Hlen.out.2).mono ?_
        rintro e w7 ⟨rfl, hbuf7, hfr7⟩
        go_wp2_with fail
        go_ret
        exact ⟨rfl, hbuf7, hBr.trans hfr7.1⟩

end Go.Proofs.Qxb6616758aFmt
