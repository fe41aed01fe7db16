import Derived.Test.Qxb6616758aFmtNew
/- writeNpyHeader onto the bufio.Writer. -/
namespace Go.Proofs.Qxb6616758aFmt
open Go.RowKit Go.Stop

theorem begun_below {b : Nat} {fl : List Value} {w w' : World} (h : Begun b fl w) (hb : Below w.heap.size w w') : Begun b fl w' := by
  rcases h with ⟨e, lr, q⟩ | q
  · exact .inl ⟨e, lr, (hb.block b (lt_of_block q)).trans q⟩
  · exact .inr q

/-- 'w.Write(size[:])' onto the writer, behind the draw. -/
theorem bufw68_at {B bw r b g n : Nat} {pd : List Value} (w6 : World) (h : BW B bw r b [] pd w6) (hbg : Begun b [] w6) (hgw : g ≠ bw) (hgb : g ≠ b) (hfit : pd.length + 2 ≤ 65536)
    (hg : w6.heap[g]? = some (.cells (Lib.byteCells (Lib.leBytes 2 n)).toArray 60 (0, 0))) :
    Calls Tryf.prog 27 #[.pointer (some ⟨bw, 0, none⟩), .slice (some ⟨g, 0, none⟩) 2 2] w6.drew fun e w' => e = .returned (.tuple #[.int .i64 2, .nilIface]) ∧ BW B bw r b [] (pd ++ Lib.byteCells (Lib.leBytes 2 n)) w' ∧ Fr B bw b w6 w' ∧ Begun b [] w' := by
  refine (bww_any B bw r b 2 2 ⟨g, 0, none⟩ [] pd (Lib.byteCells (Lib.leBytes 2 n)) w6.drew (h.same rfl) hbg (by simp [Lib.byteCells, Lib.leBytes]) (by omega) (by omega) (Lib.byteCells_one _) (fun wr hfr j v hv => ?_) (.inl hfit) (by simp)).mono ?_
  · have q := hfr.2 g _ hg hgw hgb (by simp)
    rw [add_at, Nat.zero_add, cell_of_row _ _ _ _ _ _ q]
    simpa using hv
  · rintro e w' ⟨rfl, hfr, fl', pd', h2, h3, hc⟩
    rcases hc with ⟨rfl, rfl⟩ | ⟨_, _, hx⟩
    · exact ⟨rfl, h2, ⟨⟨hfr.1.os, hfr.1.tape, hfr.1.output, hfr.1.size, hfr.1.block⟩, hfr.2⟩, h3⟩
    · omega

theorem hdr_bw {B bw r b : Nat} {S : ByteArray} {d t : List UInt8} {w : World} (hS : S.data.toList = body (dict d t))
    (h : BW B bw r b [] ([] ++ Lib.byteCells [147, 78, 85, 77, 80, 89, 1, 0] ++ Lib.byteCells (Lib.leBytes 2 (S.size % 65536)) ++ Lib.byteCells S.data.toList) w) : BW B bw r b [] (Lib.byteCells (hdrOf (dict d t))) w := by
  have e : S.size = (body (dict d t)).length := by rw [← size_list, hS]
  rw [e, hS, List.append_assoc, List.append_assoc, ← Lib.byteCells_append, ← Lib.byteCells_append] at h
  exact h

set_option maxHeartbeats 1600000 in
set_option maxRecDepth 100000 in
theorem npy_bw (F : Interp) (B bw r b : Nat) (d : ByteArray) (a : Option Addr) (len cap : Nat) (zs : List Int) (w : World) (hF : F.told.answers w.tape) (htab : TabOk w)
    (hbuf : BW B bw r b [] [] w) (hbg : Begun b [] w) (hBw : B ≤ w.heap.size) (hd : d.size ≤ 1048576) (hlen2 : Hid (len = 2)) (hz : Ints w a len zs) (hfit : Hid ((body (dict d.data.toList (tup zs))).length ≤ 65000)) :
    Calls Tryf.prog 15 #[.iface 68 (.pointer (some ⟨bw, 0, none⟩)), .string d, .slice a len cap] w fun e w' => e = .returned (.tuple #[]) ∧ BW B bw r b [] (Lib.byteCells (hdr d.data.toList zs)) w' ∧ Begun b [] w' ∧ Fr B bw b w w' := by
  have hlen : len ≤ 65536 := by have := hlen2.out; omega
  obtain ⟨i0, hi, hz0, hz1, hz2⟩ := info_parts Tryf.info9
  go_enter Tryf.func15, Tryf.ntmps15
  go_wp2_with (at_make; refine wpList_make_full _ rfl _ _ 27 rfl w.heap.size 9 i0 (.string ⟨#[]⟩) 1 Tryf.underlying27 hi hz0 hz1 .i64 .i64 _ _ len rfl rfl (by simp) (by simp) (by rw [hz2]; omega) (by unfold maxLen; omega) (Nat.le_refl _) ?_)
  intro w1 hown hgrow
  have hb1 : Below w.heap.size w w1 := (Below.refl _ _).grown hgrow (Nat.le_refl _) (fun k hk => by cases hk)
  have hown1 : w1.ownsRow w.heap.size 9 1 (.slice (some ⟨w.heap.size, 0, none⟩) len len) len (dimCells zs len 0) := by
    rw [dim_zero]
    simpa [Value.cells, toList_madeCells_one] using hown
  clear hown hgrow
  go_wp2_with fail
  go_loopw [20, 7, 8] (fun i _ _ wr => ∃ k : Nat, k ≤ len ∧ i = .int .i64 k ∧ Below w.heap.size w wr ∧ wr.ownsRow w.heap.size 9 1 (.slice (some ⟨w.heap.size, 0, none⟩) len len) len (dimCells zs len k)) (fun i _ _ _ => len - (intOf i).toNat)
  case atStart => exact ⟨0, Nat.zero_le _, rfl, hb1, hown1⟩
  case round =>
    clear hb1 hown1
    obtain ⟨k, hk, rfl, hbr, hor⟩ := hrel
    by_cases hlt : k < len
    · obtain ⟨bk, off, rfl, hbk, hc⟩ := hz.at k hlt
      have hcx : wr.cell? ⟨bk, off + k, none⟩ = some (.int .i64 (zs.getD k 0)) := (hbr.cell hbk).trans hc
      have hzb := hz.2.2.2 (zs.getD k 0) (by rw [List.getD, List.getElem?_eq_getElem (by rw [hz.1]; exact hlt)]; exact List.getElem_mem _)
      have htr := htab.below hbr
      obtain ⟨z, hzz⟩ : ∃ z, z = zs.getD k 0 := ⟨_, rfl⟩
      rw [← hzz] at hcx hzb
      have HZ : Hid (z = zs.getD k 0) := hzz
      clear hzz hc
      go_wp2_with fail
      refine (Tryf.strconv_Itoa z hzb.1 hzb.2 _ htr).mono ?_
      rintro e w2 ⟨rfl, q, os, hw2⟩
      have hb2 : Below wr.heap.size wr w2 := by rw [hw2]; exact grow_below wr q os
      have ho2 := owns_below hor hb2
      have hb2' : Below w.heap.size w w2 := hbr.trans (hb2.mono hbr.size)
      have hfz : w2.frozen? ⟨w.heap.size, k, none⟩ = false := ho2.frozenAt k
      have hcy : ∃ y, w2.cell? ⟨w.heap.size, k, none⟩ = some y := by
        rw [ho2.cellAt k (by omega)]
        have : k < (dimCells zs len k).length := by rw [ho2.1]; omega
        exact ⟨_, List.getElem?_eq_getElem this⟩
      obtain ⟨y, hcy⟩ := hcy
      have R : (w2.setCell ⟨w.heap.size, k, none⟩ (.string ⟨(Lib.itoa z).toArray⟩)).ownsRow w.heap.size 9 1 (.slice (some ⟨w.heap.size, 0, none⟩) len len) len (dimCells zs len (k + 1)) := by
        rw [← dim_set zs len k hz.1 hlt, ← HZ.out]
        exact (ho2.stored k _).1
      have R2 : Below w.heap.size w (w2.setCell ⟨w.heap.size, k, none⟩ (.string ⟨(Lib.itoa z).toArray⟩)) := hb2'.setCell (Nat.le_refl _) _
      clear hw2 ho2 hb2 hor hbr hcx htr
      generalize (⟨(Lib.itoa z).toArray⟩ : ByteArray) = sz at *
      go_wp2_with fail
      go_roundw
      case rel => exact ⟨k + 1, by omega, by go_num, R2, R⟩
      case measure => simp [intOf]; omega
    · obtain rfl : k = len := by omega
      rw [dim_full zs k hz.1] at hor
      have hFr : F.told.answers wr.tape := by rw [hbr.tape]; exact hF
      go_wp2_with fail
      refine (join_any _ _ zs _ hz.1 hlen hz.2.2.2 hor).mono ?_
      rintro e w3 ⟨rfl, hb3⟩
      have hB3 : Below w.heap.size w w3 := hbr.trans (hb3.mono hbr.size)
      have hF3 : F.told.answers w3.tape := by rw [hB3.tape]; exact hF
      clear hor hb3 hbr hFr
      obtain ⟨J, hJ⟩ : ∃ J : ByteArray, J = ⟨(Lib.join (zs.map Lib.itoa) [44, 32]).toArray⟩ := ⟨_, rfl⟩
      rw [← hJ]
      obtain ⟨hJs, hJ1, hJ2⟩ := tuple_str hz hlen hJ
      clear hJ
      by_cases hk1 : k = 1
      · have := hlen2.out
        omega
      · have hkb : ((k : Int) == 1) = false := beq_eq_false_iff_ne.2 (by omega)
        have hT := (hJ2 hk1)
        have hTs : J.size ≤ 1600001 := by omega
        clear hk1 hJ1 hJ2
        have hsp := sprintf_run F d J w3.heap.size (w3.alloc (.cells #[.iface 9 (.string d), .iface 9 (.string J)] 20)) (by simpa using hF3) (by omega) (by omega) (by simp) (by simp)
        rw [hT.out] at hsp
        obtain ⟨D, hD, hDs, hD2⟩ : ∃ D : ByteArray, (⟨(dict d.data.toList (tup zs)).toArray⟩ : ByteArray) = D ∧ D.size ≤ 2700000 ∧ Hid (D.data.toList = dict d.data.toList (tup zs)) := dict_str hd hTs hT.out
        rw [hD] at hsp
        clear hD hT hTs
        go_wp2_with fail
        rw [show (((10 : Int) + D.size + 1 + 64 - 1) / 64 * 64 - 10 - D.size - 1) = ((padLen D.size : Nat) : Int) from by unfold padLen; omega]
        have hpl : padLen D.size ≤ 64 := by unfold padLen; omega
        refine (Tryf.strings_Repeat ⟨#[32]⟩ (padLen D.size) _ (by omega) (by show 1 * _ ≤ _; omega)).mono ?_
        rintro e w4 ⟨rfl, hb4⟩
        have hB4 : Below w.heap.size w w4 := (hB3.alloc hB3.size _).drew.trans (hb4.mono (by simp; exact Nat.le_trans hB3.size (Nat.le_succ _)))
        obtain ⟨R, hR, hRs, hR2⟩ : ∃ R : ByteArray, (⟨(Lib.repeatL (⟨#[32]⟩ : ByteArray).data.toList (padLen D.size)).toArray⟩ : ByteArray) = R ∧ R.size ≤ 64 ∧ Hid (R.data.toList = List.replicate (padLen D.size) 32) := blanks_str hpl
        rw [hR]
        clear hR hb4 hsp hpl hB3 hF3 hJs hkb
        obtain ⟨S, hS, hSs, hS2⟩ : ∃ S : ByteArray, D ++ R ++ ⟨#[10]⟩ = S ∧ S.size ≤ 2800000 ∧ Hid (S.data.toList = body (dict d.data.toList (tup zs))) := body_str hDs hRs hD2.out hR2.out
        have hadd1 : ∀ W, (Op.stringOp .add D R).run Tryf.prog W = .ok (.string (D ++ R)) W := fun W => run_string_add_sum W D R (by omega)
        have hadd2 : ∀ W, (Op.stringOp .add (D ++ R) ⟨#[10]⟩).run Tryf.prog W = .ok (.string S) W := fun W => by rw [← hS]; exact run_string_add_sum W (D ++ R) ⟨#[10]⟩ (by rw [ByteArray.size_append]; show D.size + R.size + 1 ≤ _; omega)
        clear hS hD2 hR2
        go_wp2_with fail
        clear hadd1 hadd2
        go_region_with (go_at_call 22; refine (put16_at w4 S.size).mono ?_; rintro e w5 ⟨rfl, hg5, hb5⟩)
        have hB5 : Below w.heap.size w w5 := (hB4.alloc hB4.size _).drew.trans (hb5.mono hB4.size)
        have hbuf5 := hbuf.below hB5
        have hbg5 : Begun b [] w5 := begun_below hbg hB5
        have HG : Hid (w5.heap[w4.heap.size]? = some (.cells (Lib.byteCells (Lib.leBytes 2 (S.size % 65536))).toArray 60 (0, 0))) := hg5
        have hs4 := hB4.size
        have hs5 := hB5.size
        have hbwlt := lt_of_block hbuf.blk
        have hblt := hbuf.buf.lt
        have hS65 : S.size ≤ 65000 := by rw [← size_list, hS2.out]; exact hfit.out
        clear hg5 hb5 hB4
        go_wp2_with fail
        refine (wrs68 B bw r b [] [] ⟨#[147, 78, 85, 77, 80, 89, 1, 0]⟩ w5 hbuf5 hbg5 (by show 0 + 8 ≤ 65536; omega) (by simp)).mono ?_
        rintro e w6 ⟨rfl, hbuf6, hb6, hbg6⟩
        have hs6 := hb6.1.size
        have HG6 : Hid (w6.heap[w4.heap.size]? = some (.cells (Lib.byteCells (Lib.leBytes 2 (S.size % 65536))).toArray 60 (0, 0))) := hb6.2 _ _ HG.out (by omega) (by omega) (by simp)
        clear HG hbuf5 hbg5
        go_wp2_with fail
        have hm68 := meth68w
        have hn68 := nil68w
        go_region_with (go_at_call 27; refine (bufw68_at (bw := bw) (b := b) (g := w4.heap.size) w6 hbuf6 hbg6 (by omega) (by omega) (by show 0 + 8 + 2 ≤ 65536; omega) HG6.out).mono ?_; rintro e w7 ⟨rfl, hbuf7, hb7, hbg7⟩)
        have hs7 := hb7.1.size
        clear hbuf6 HG6 hm68 hn68
        go_wp2_with fail
        refine (wrs68 B bw r b [] _ S w7 hbuf7 hbg7 (by simp [Lib.byteCells, leBytes2_length]; omega) (by simp [Lib.byteCells, leBytes2_length])).mono ?_
        rintro e w8 ⟨rfl, hbuf8, hb8, hbg8⟩
        go_wp2_with fail
        go_end0
        exact ⟨rfl, hdr_bw hS2.out hbuf8, hbg8, ((((Fr.refl B bw b w).below hBw hB5).trans hb6).trans hb7).trans hb8⟩

end Go.Proofs.Qxb6616758aFmt
