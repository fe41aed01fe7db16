import Derived.Test.Qxb6616758aFmtNpy
import Derived.Deep.RegionWith
namespace Go.Proofs.Qxb6616758aFmt
open Go.RowKit Go.Stop

/-- The table that strconv.Itoa reads. -/
def TabOk (w : World) : Prop := Lib.TabIs Tryf.prog w Tryf.tabName .u64 Lib.pow10Tab

theorem TabOk.below {w w' : World} (h : TabOk w) (hb : Below w.heap.size w w') : TabOk w' := by
  have hg : Tryf.prog.globalNamed Tryf.tabName = some 3 := by kernel_rfl
  refine var?_below hb hg ?_ h
  have hv : w.var? Tryf.prog Tryf.tabName = some _ := h
  unfold World.var? at hv
  simp only [hg, Option.bind_some] at hv
  rcases Nat.lt_or_ge 3 w.heap.size with h' | h'
  · exact h'
  · rw [Array.getElem?_eq_none h'] at hv
    simp at hv

/-- A slice of ints, as far as it is read. -/
def Ints (w : World) (a : Option Addr) (len : Nat) (zs : List Int) : Prop :=
  zs.length = len ∧ (a = none → len = 0) ∧ (∀ x, a = some x → ∀ j v, zs[j]? = some v → w.cell? (x.add j) = some (.int .i64 v)) ∧ ∀ z ∈ zs, -9223372036854775808 ≤ z ∧ z ≤ 9223372036854775807

theorem Ints.below {w w' : World} {a : Option Addr} {len : Nat} {zs : List Int} (h : Ints w a len zs) (hb : Below w.heap.size w w') : Ints w' a len zs :=
  ⟨h.1, h.2.1, fun x hx j v hv => cell_later hb (h.2.2.1 x hx j v hv), h.2.2.2⟩

theorem add_at (b off i : Nat) : Addr.add ⟨b, off, none⟩ i = ⟨b, off + i, none⟩ := by
  by_cases h : i = 0 <;> simp [Addr.add, h]

theorem Ints.at {w : World} {a : Option Addr} {len : Nat} {zs : List Int} (h : Ints w a len zs) (k : Nat) (hk : k < len) :
    ∃ b off, a = some ⟨b, off, none⟩ ∧ b < w.heap.size ∧ w.cell? ⟨b, off + k, none⟩ = some (.int .i64 (zs.getD k 0)) := by
  obtain ⟨hl, hn, hc, _⟩ := h
  cases a with
  | none => exact absurd (hn rfl) (by omega)
  | some x =>
    obtain ⟨b, off, sp⟩ := x
    have hz : zs[k]? = some (zs.getD k 0) := by rw [List.getElem?_eq_getElem (by omega)]; simp [List.getD, hl, hk]
    cases sp with
    | none =>
      have h0 := hc _ rfl k _ hz
      rw [add_at] at h0
      exact ⟨b, off, rfl, World.block_lt_of_cell? _ _ h0, h0⟩
    | some s =>
      have hz0 : zs[0]? = some (zs.getD 0 0) := by rw [List.getElem?_eq_getElem (by omega)]; simp [List.getD, show 0 < zs.length by omega]
      have h0 := hc _ rfl 0 _ hz0
      exfalso
      simp only [World.cell?, Addr.add] at h0
      split at h0 <;> simp at h0

/-- What is owned stays owned where nothing old turns. -/
theorem owns_below {w w' : World} {base : Nat} {e : TypeId} {size : Nat} {v : Value} {n : Nat} {xs : List Value} (h : w.ownsRow base e size v n xs) (hb : Below w.heap.size w w') : w'.ownsRow base e size v n xs := by
  obtain ⟨h1, h2⟩ := h
  refine ⟨h1, ?_⟩
  rcases h2 with h2 | ⟨g, cap, cur, hv, hg, hh, r⟩
  · exact .inl h2
  · exact .inr ⟨g, cap, cur, hv, hg, (hb.block g (lt_of_block hh)).trans hh, r⟩

theorem buf_below {w w' : World} {B b : Nat} {bs : List Value} (h : Lib.IsBuffer 41 5 B b bs w) (hb : Below w.heap.size w w') : Lib.IsBuffer 41 5 B b bs w' := by
  obtain ⟨h1, v, lr, h2, h3, h4⟩ := h
  exact ⟨h1, v, lr, (hb.block b (lt_of_block h2)).trans h2, owns_below h3 hb, h4⟩

theorem grow_below (w : World) (k : Nat) (os : Array Obj) : Below w.heap.size w (Sort.grow (w.drewN k) os) := by
  refine ⟨rfl, rfl, rfl, by simp [Sort.grow], fun i hi => ?_⟩
  simp only [Sort.grow, World.heap_drewN]
  rw [Array.getElem?_append_left hi]

/-- dims, k of them filled. -/
def dimCells (zs : List Int) (len k : Nat) : List Value := (zs.take k).map (fun z => Value.string ⟨(Lib.itoa z).toArray⟩) ++ List.replicate (len - k) (.string ⟨#[]⟩)

theorem dim_zero (zs : List Int) (len : Nat) : dimCells zs len 0 = List.replicate len (.string ⟨#[]⟩) := by simp [dimCells]
theorem dim_full (zs : List Int) (len : Nat) (h : zs.length = len) : dimCells zs len len = zs.map (fun z => Value.string ⟨(Lib.itoa z).toArray⟩) := by
  simp [dimCells, List.take_of_length_le (by omega : zs.length ≤ len)]
theorem dim_set (zs : List Int) (len k : Nat) (h : zs.length = len) (hk : k < len) : (dimCells zs len k).set k (.string ⟨(Lib.itoa (zs.getD k 0)).toArray⟩) = dimCells zs len (k + 1) := by
  unfold dimCells
  have e1 : ((zs.take k).map (fun z => Value.string ⟨(Lib.itoa z).toArray⟩)).length = k := by simp; omega
  rw [List.set_append_right _ _ (by omega), e1, Nat.sub_self, show len - k = (len - (k + 1)) + 1 by omega, List.replicate_succ, List.set_cons_zero, List.take_succ_eq_append_getElem (by omega), List.map_append, List.append_assoc]
  simp [List.getD, show k < zs.length by omega]

theorem join_any (g len : Nat) (zs : List Int) (w : World) (hl : zs.length = len) (hlen : len ≤ 65536) (hz : ∀ z ∈ zs, -9223372036854775808 ≤ z ∧ z ≤ 9223372036854775807) (ho : w.ownsRow g 9 1 (.slice (some ⟨g, 0, none⟩) len len) len (zs.map (fun z => Value.string ⟨(Lib.itoa z).toArray⟩))) :
    Calls Tryf.prog 19 #[.slice (some ⟨g, 0, none⟩) len len, .string ⟨#[44, 32]⟩] w fun e w' => e = .returned (.string ⟨(Lib.join (zs.map Lib.itoa) [44, 32]).toArray⟩) ∧ Below w.heap.size w w' := by
  by_cases h0 : len = 0
  · subst h0
    obtain rfl : zs = [] := List.eq_nil_of_length_eq_zero hl
    refine (Tryf.strings_Join_none (some ⟨g, 0, none⟩) 0 ⟨#[44, 32]⟩ w).mono ?_
    rintro e w' ⟨rfl, rfl⟩
    exact ⟨rfl, Below.refl _ _⟩
  · have hxs : (zs.map (fun z => (⟨(Lib.itoa z).toArray⟩ : ByteArray))).length = len := by simpa using hl
    have hm : (zs.map (fun z => (⟨(Lib.itoa z).toArray⟩ : ByteArray))).map (·.data.toList) = zs.map Lib.itoa := by simp [List.map_map, Function.comp_def]
    have hcell : ∀ (j : Nat) x, (zs.map (fun z => (⟨(Lib.itoa z).toArray⟩ : ByteArray)))[j]? = some x → w.cell? ⟨g, 0 + j, none⟩ = some (.string x) := by
      intro j x hx
      have hj : j < len := by rw [← hxs]; exact (List.getElem?_eq_some_iff.1 hx).1
      rw [Nat.zero_add, ho.cellAt j (by omega), List.getElem?_map]
      rw [List.getElem?_map] at hx
      obtain ⟨z, hz1, rfl⟩ := Option.map_eq_some_iff.1 hx
      rw [hz1]; rfl
    have hg : g < w.heap.size := by
      have := ho.cellAt 0 (by omega)
      rw [List.getElem?_eq_getElem (by simp; omega)] at this
      exact World.block_lt_of_cell? _ _ this
    have hjl : (Lib.join (zs.map Lib.itoa) [44, 32]).length ≤ 140737488355328 := by
      have := tup_length zs hz
      unfold tup at this
      rw [List.length_append] at this
      omega
    have hc := Tryf.strings_Join g 0 len (zs.map (fun z => (⟨(Lib.itoa z).toArray⟩ : ByteArray))) ⟨#[44, 32]⟩ w hcell hg (by omega) (by omega) (by rw [hm]; exact hjl)
    rw [hxs, hm] at hc
    exact hc

/-- The tuple's string: what the join gave, or with a comma behind it. -/
theorem tuple_str {w : World} {a : Option Addr} {k : Nat} {zs : List Int} {J : ByteArray} (hz : Ints w a k zs) (hlen : k ≤ 65536) (hJ : J = ⟨(Lib.join (zs.map Lib.itoa) [44, 32]).toArray⟩) :
    J.size ≤ 1600000 ∧ (k = 1 → Hid ((J ++ ⟨#[44]⟩ : ByteArray).data.toList = tup zs)) ∧ (k ≠ 1 → Hid (J.data.toList = tup zs)) := by
  have hl := tup_length zs hz.2.2.2
  rw [hz.1] at hl
  refine ⟨?_, fun hk => ?_, fun hk => ?_⟩
  · rw [hJ]
    show (Lib.join (zs.map Lib.itoa) [44, 32]).length ≤ _
    unfold tup at hl
    rw [List.length_append] at hl
    omega
  · show (J ++ ⟨#[44]⟩ : ByteArray).data.toList = tup zs
    rw [ByteArray.data_append, Array.toList_append, hJ]
    unfold tup
    rw [if_pos (by rw [hz.1]; exact hk)]
  · show J.data.toList = tup zs
    rw [hJ]
    unfold tup
    rw [if_neg (by rw [hz.1]; exact hk), List.append_nil]

theorem size_list (s : ByteArray) : s.data.toList.length = s.size := rfl

theorem dict_str {d T : ByteArray} {t : List UInt8} (hd : d.size ≤ 1048576) (hT : T.size ≤ 1600001) (ht : T.data.toList = t) :
    ∃ D : ByteArray, (⟨(dict d.data.toList t).toArray⟩ : ByteArray) = D ∧ D.size ≤ 2700000 ∧ Hid (D.data.toList = dict d.data.toList t) := by
  refine ⟨_, rfl, ?_, rfl⟩
  show (dict d.data.toList t).length ≤ _
  rw [dict_length, ← ht]
  rw [size_list, size_list]
  omega

theorem blanks_str {n : Nat} (h : n ≤ 64) : ∃ R : ByteArray, (⟨(Lib.repeatL (⟨#[32]⟩ : ByteArray).data.toList n).toArray⟩ : ByteArray) = R ∧ R.size ≤ 64 ∧ Hid (R.data.toList = List.replicate n 32) := by
  refine ⟨_, rfl, ?_, repeat_blank n⟩
  show (Lib.repeatL [32] n).length ≤ _
  rw [repeat_blank]
  simpa using h

theorem body_str {D R : ByteArray} {x : List UInt8} (hD : D.size ≤ 2700000) (hR : R.size ≤ 64) (h1 : D.data.toList = x) (h2 : R.data.toList = List.replicate (padLen D.size) 32) :
    ∃ S : ByteArray, D ++ R ++ ⟨#[10]⟩ = S ∧ S.size ≤ 2800000 ∧ Hid (S.data.toList = body x) := by
  refine ⟨_, rfl, ?_, ?_⟩
  · rw [ByteArray.size_append, ByteArray.size_append]
    show D.size + R.size + 1 ≤ _
    omega
  · show (D ++ R ++ ⟨#[10]⟩ : ByteArray).data.toList = body x
    rw [ByteArray.data_append, ByteArray.data_append, Array.toList_append, Array.toList_append, h1, h2, ← size_list, h1, body, List.append_assoc]

theorem wrap16 (n : Nat) : IntKind.u16.wrap (n : Int) = ((n % 65536 : Nat) : Int) := by
  simp [IntKind.wrap, IntKind.bits, IntKind.signed]

/-- 'binary.LittleEndian.PutUint16(size[:], uint16(n))', size a [2]byte of the call's own. -/
theorem put16 (g n : Nat) (W : World) (hg : W.heap[g]? = some (.cells #[.int .u8 0, .int .u8 0] 60 (0, 0))) :
    Calls Tryf.prog 22 #[.agg #[], .slice (some ⟨g, 0, none⟩) 2 2, .int .u16 (IntKind.u16.wrap (n : Int))] W fun e W' => e = .returned (.tuple #[]) ∧ W'.heap[g]? = some (.cells (Lib.byteCells (Lib.leBytes 2 (n % 65536))).toArray 60 (0, 0)) ∧ Below g W W' := by
  rw [wrap16]
  have c0 : W.cell? ⟨g, 0, none⟩ = some (.int .u8 0) := cell_of_row W g 0 _ _ _ hg
  have c1 : W.cell? ⟨g, 0 + 1, none⟩ = some (.int .u8 0) := cell_of_row W g 1 _ _ _ hg
  refine (Tryf.binary_LE_PutUint16 g 0 2 2 (n % 65536) (by omega) (.int .u8 0) (.int .u8 0) W (by omega) c0 c1 (frozen_of_row W g 0 _ _ hg) (frozen_of_row W g 1 _ _ hg)).mono ?_
  rintro e w' ⟨rfl, rfl⟩
  have hlt := lt_of_block hg
  have hg1 : (W.alloc (.cells #[] 62)).heap[g]? = some (.cells #[.int .u8 0, .int .u8 0] 60 (0, 0)) := (Below.heap_alloc _ _ _ hlt).trans hg
  refine ⟨rfl, ?_, ?_⟩
  · have h1 := heap_setCell_same _ g 0 _ 60 (.int .u8 ((n % 65536 % 256).toUInt8.toNat : Int)) hg1
    have h2 := heap_setCell_same _ g 1 _ 60 (.int .u8 ((n % 65536 / 256 % 256).toUInt8.toNat : Int)) h1
    exact h2
  · exact (((Below.refl g W).alloc (Nat.le_of_lt hlt) _).setCell (p := ⟨g, 0, none⟩) (Nat.le_refl _) _).setCell (p := ⟨g, 0 + 1, none⟩) (Nat.le_refl _) _

theorem put16_at (w4 : World) (n : Nat) :
    Calls Tryf.prog 22 #[.agg #[], .slice (some ⟨w4.heap.size, 0, none⟩) 2 2, .int .u16 (IntKind.u16.wrap (n : Int))] (w4.alloc (.cells #[.int .u8 0, .int .u8 0] 60)).drew fun e W' => e = .returned (.tuple #[]) ∧
      W'.heap[w4.heap.size]? = some (.cells (Lib.byteCells (Lib.leBytes 2 (n % 65536))).toArray 60 (0, 0)) ∧ Below w4.heap.size (w4.alloc (.cells #[.int .u8 0, .int .u8 0] 60)).drew W' :=
  put16 w4.heap.size n (w4.alloc (.cells #[.int .u8 0, .int .u8 0] 60)).drew (heap_alloc_new w4 (.cells #[.int .u8 0, .int .u8 0] 60 (0, 0)))

theorem app_one {bs : List Value} (h : ∀ v ∈ bs, v.oneCell' = true) (l : List UInt8) : ∀ v ∈ bs ++ Lib.byteCells l, v.oneCell' = true := by
  intro v hv
  rcases List.mem_append.1 hv with hv | hv
  · exact h v hv
  · exact Lib.byteCells_one l v hv

/-- 'w.Write(size[:])' onto the buffer, behind the draw. -/
theorem bufw_at {B b g n : Nat} {bs : List Value} (w6 : World) (h : Lib.IsBuffer 41 5 B b bs w6) (hBw : B ≤ w6.heap.size) (hgb : b < g) (h1 : ∀ v ∈ bs, v.oneCell' = true) (hlim : bs.length ≤ 8589934592)
    (hg : w6.heap[g]? = some (.cells (Lib.byteCells (Lib.leBytes 2 n)).toArray 60 (0, 0))) :
    Calls Tryf.prog 74 #[.pointer (some ⟨b, 0, none⟩), .slice (some ⟨g, 0, none⟩) 2 2] w6.drew fun e w' => e = .returned (.tuple #[.int .i64 2, .nilIface]) ∧ Lib.IsBuffer 41 5 B b (bs ++ Lib.byteCells (Lib.leBytes 2 n)) w' ∧ Below B w6 w' := by
  refine (Tryf.Buffer_Write_any B b bs (Lib.byteCells (Lib.leBytes 2 n)) ⟨g, 0, none⟩ 2 2 w6.drew h hBw h1 (by simp [Lib.byteCells, Lib.leBytes]) (by simp; omega) (fun j v hv => ?_) (Lib.byteCells_one _) (by omega)).mono ?_
  · rw [add_at, Nat.zero_add, World.cell?_drew, cell_of_row _ _ _ _ _ _ hg]
    simpa using hv
  · rintro e w' ⟨rfl, h2, hb, _⟩
    exact ⟨rfl, h2, ⟨hb.os, hb.tape, hb.output, hb.size, hb.block⟩⟩

theorem hdr_cells {B b : Nat} {bs : List Value} {S : ByteArray} {d t : List UInt8} {w : World} (hS : S.data.toList = body (dict d t))
    (h : Lib.IsBuffer 41 5 B b (bs ++ Lib.byteCells [147, 78, 85, 77, 80, 89, 1, 0] ++ Lib.byteCells (Lib.leBytes 2 (S.size % 65536)) ++ Lib.byteCells S.data.toList) w) : Lib.IsBuffer 41 5 B b (bs ++ Lib.byteCells (hdrOf (dict d t))) w := by
  have e : S.size = (body (dict d t)).length := by rw [← size_list, hS]
  rw [e, hS, List.append_assoc, List.append_assoc, ← Lib.byteCells_append, ← Lib.byteCells_append] at h
  exact h

set_option maxHeartbeats 1600000 in
set_option maxRecDepth 100000 in
theorem npy_buf (F : Interp) (B b : Nat) (bs : List Value) (d : ByteArray) (a : Option Addr) (len cap : Nat) (zs : List Int) (w : World) (hF : F.told.answers w.tape) (htab : TabOk w)
    (hbuf : Lib.IsBuffer 41 5 B b bs w) (hBw : B ≤ w.heap.size) (h1 : ∀ v ∈ bs, v.oneCell' = true) (hlim : bs.length ≤ 4294967296) (hd : d.size ≤ 1048576) (hlen : len ≤ 65536) (hz : Ints w a len zs) :
    Calls Tryf.prog 15 #[.iface 43 (.pointer (some ⟨b, 0, none⟩)), .string d, .slice a len cap] w fun e w' => e = .returned (.tuple #[]) ∧ Lib.IsBuffer 41 5 B b (bs ++ Lib.byteCells (hdr d.data.toList zs)) w' ∧ Below B w w' := by
  obtain ⟨i0, hi, hz0, hz1, hz2⟩ := info_parts Tryf.info9
  go_enter Tryf.func15, Tryf.ntmps15
  go_wp2_with (at_make; refine wpList_make_full _ rfl _ _ 27 rfl w.heap.size 9 i0 (.string ⟨#[]⟩) 1 Tryf.underlying27 hi hz0 hz1 .i64 .i64 _ _ len rfl rfl (by simp) (by simp) (by rw [hz2]; omega) (by unfold maxLen; omega) (Nat.le_refl _) ?_)
  intro w1 hown hgrow
  have hb1 : Below w.heap.size w w1 := (Below.refl _ _).grown hgrow (Nat.le_refl _) (fun k hk => by cases hk)
  have hown1 : w1.ownsRow w.heap.size 9 1 (.slice (some ⟨w.heap.size, 0, none⟩) len len) len (dimCells zs len 0) := by
    rw [dim_zero]
    simpa [Value.cells, toList_madeCells_one] using hown
  clear hown hgrow
  go_wp2_with fail
  go_loopw [20, 7, 8] (fun i _ _ wr => ∃ k : Nat, k ≤ len ∧ i = .int .i64 k ∧ Below w.heap.size w wr ∧ wr.ownsRow w.heap.size 9 1 (.slice (some ⟨w.heap.size, 0, none⟩) len len) len (dimCells zs len k)) (fun i _ _ _ => len - (intOf i).toNat)
  case atStart => exact ⟨0, Nat.zero_le _, rfl, hb1, hown1⟩
  case round =>
    clear hb1 hown1
    obtain ⟨k, hk, rfl, hbr, hor⟩ := hrel
    by_cases hlt : k < len
    · obtain ⟨bk, off, rfl, hbk, hc⟩ := hz.at k hlt
      have hcx : wr.cell? ⟨bk, off + k, none⟩ = some (.int .i64 (zs.getD k 0)) := (hbr.cell hbk).trans hc
      have hzb := hz.2.2.2 (zs.getD k 0) (by rw [List.getD, List.getElem?_eq_getElem (by rw [hz.1]; exact hlt)]; exact List.getElem_mem _)
      have htr := htab.below hbr
      obtain ⟨z, hzz⟩ : ∃ z, z = zs.getD k 0 := ⟨_, rfl⟩
      rw [← hzz] at hcx hzb
      have HZ : Hid (z = zs.getD k 0) := hzz
      clear hzz hc
      go_wp2_with fail
      refine (Tryf.strconv_Itoa z hzb.1 hzb.2 _ htr).mono ?_
      rintro e w2 ⟨rfl, q, os, hw2⟩
      have hb2 : Below wr.heap.size wr w2 := by rw [hw2]; exact grow_below wr q os
      have ho2 := owns_below hor hb2
      have hb2' : Below w.heap.size w w2 := hbr.trans (hb2.mono hbr.size)
      have hfz : w2.frozen? ⟨w.heap.size, k, none⟩ = false := ho2.frozenAt k
      have hcy : ∃ y, w2.cell? ⟨w.heap.size, k, none⟩ = some y := by
        rw [ho2.cellAt k (by omega)]
        have : k < (dimCells zs len k).length := by rw [ho2.1]; omega
        exact ⟨_, List.getElem?_eq_getElem this⟩
      obtain ⟨y, hcy⟩ := hcy
      have R : (w2.setCell ⟨w.heap.size, k, none⟩ (.string ⟨(Lib.itoa z).toArray⟩)).ownsRow w.heap.size 9 1 (.slice (some ⟨w.heap.size, 0, none⟩) len len) len (dimCells zs len (k + 1)) := by
        rw [← dim_set zs len k hz.1 hlt, ← HZ.out]
        exact (ho2.stored k _).1
      have R2 : Below w.heap.size w (w2.setCell ⟨w.heap.size, k, none⟩ (.string ⟨(Lib.itoa z).toArray⟩)) := hb2'.setCell (Nat.le_refl _) _
      clear hw2 ho2 hb2 hor hbr hcx htr
      generalize (⟨(Lib.itoa z).toArray⟩ : ByteArray) = sz at *
      go_wp2_with fail
      go_roundw
      case rel => exact ⟨k + 1, by omega, by go_num, R2, R⟩
      case measure => simp [intOf]; omega
    · obtain rfl : k = len := by omega
      rw [dim_full zs k hz.1] at hor
      have hFr : F.told.answers wr.tape := by rw [hbr.tape]; exact hF
      go_wp2_with fail
      refine (join_any _ _ zs _ hz.1 hlen hz.2.2.2 hor).mono ?_
      rintro e w3 ⟨rfl, hb3⟩
      have hB3 : Below w.heap.size w w3 := hbr.trans (hb3.mono hbr.size)
      have hF3 : F.told.answers w3.tape := by rw [hB3.tape]; exact hF
      clear hor hb3 hbr hFr
      obtain ⟨J, hJ⟩ : ∃ J : ByteArray, J = ⟨(Lib.join (zs.map Lib.itoa) [44, 32]).toArray⟩ := ⟨_, rfl⟩
      rw [← hJ]
      obtain ⟨hJs, hJ1, hJ2⟩ := tuple_str hz hlen hJ
      clear hJ
      by_cases hk1 : k = 1
      · have hkb : ((k : Int) == 1) = true := beq_iff_eq.2 (by omega)
        have hT := (hJ1 hk1)
        have hTs : (J ++ ⟨#[44]⟩ : ByteArray).size ≤ 1600001 := by
          rw [ByteArray.size_append]
          show J.size + 1 ≤ _
          omega
        clear hk1 hJ1 hJ2
        have hsp := sprintf_run F d (J ++ ⟨#[44]⟩) w3.heap.size (w3.alloc (.cells #[.iface 9 (.string d), .iface 9 (.string (J ++ ⟨#[44]⟩))] 20)) (by simpa using hF3) (by omega) (by omega) (by simp) (by simp)
        rw [hT.out] at hsp
        obtain ⟨D, hD, hDs, hD2⟩ : ∃ D : ByteArray, (⟨(dict d.data.toList (tup zs)).toArray⟩ : ByteArray) = D ∧ D.size ≤ 2700000 ∧ Hid (D.data.toList = dict d.data.toList (tup zs)) := dict_str hd hTs hT.out
        rw [hD] at hsp
        clear hD hT hTs
        go_wp2_with fail
        rw [show (((10 : Int) + D.size + 1 + 64 - 1) / 64 * 64 - 10 - D.size - 1) = ((padLen D.size : Nat) : Int) from by unfold padLen; omega]
        have hpl : padLen D.size ≤ 64 := by unfold padLen; omega
        refine (Tryf.strings_Repeat ⟨#[32]⟩ (padLen D.size) _ (by omega) (by show 1 * _ ≤ _; omega)).mono ?_
        rintro e w4 ⟨rfl, hb4⟩
        have hB4 : Below w.heap.size w w4 := (hB3.alloc hB3.size _).drew.trans (hb4.mono (by simp; exact Nat.le_trans hB3.size (Nat.le_succ _)))
        obtain ⟨R, hR, hRs, hR2⟩ : ∃ R : ByteArray, (⟨(Lib.repeatL (⟨#[32]⟩ : ByteArray).data.toList (padLen D.size)).toArray⟩ : ByteArray) = R ∧ R.size ≤ 64 ∧ Hid (R.data.toList = List.replicate (padLen D.size) 32) := blanks_str hpl
        rw [hR]
        clear hR hb4 hsp hpl hB3 hF3 hJs hkb
        obtain ⟨S, hS, hSs, hS2⟩ : ∃ S : ByteArray, D ++ R ++ ⟨#[10]⟩ = S ∧ S.size ≤ 2800000 ∧ Hid (S.data.toList = body (dict d.data.toList (tup zs))) := body_str hDs hRs hD2.out hR2.out
        have hadd1 : ∀ W, (Op.stringOp .add D R).run Tryf.prog W = .ok (.string (D ++ R)) W := fun W => run_string_add_sum W D R (by omega)
        have hadd2 : ∀ W, (Op.stringOp .add (D ++ R) ⟨#[10]⟩).run Tryf.prog W = .ok (.string S) W := fun W => by rw [← hS]; exact run_string_add_sum W (D ++ R) ⟨#[10]⟩ (by rw [ByteArray.size_append]; show D.size + R.size + 1 ≤ _; omega)
        clear hS hD2 hR2
        go_wp2_with fail
        clear hadd1 hadd2
        go_region_with (go_at_call 22; refine (put16_at w4 S.size).mono ?_; rintro e w5 ⟨rfl, hg5, hb5⟩)
        have hB5 : Below w.heap.size w w5 := (hB4.alloc hB4.size _).drew.trans (hb5.mono hB4.size)
        have hbuf5 := buf_below hbuf hB5
        have HG : Hid (w5.heap[w4.heap.size]? = some (.cells (Lib.byteCells (Lib.leBytes 2 (S.size % 65536))).toArray 60 (0, 0))) := hg5
        have hs4 := hB4.size
        have hs5 := hB5.size
        clear hg5 hb5 hB4
        go_wp2_with fail
        refine (wrs_any B b bs ⟨#[147, 78, 85, 77, 80, 89, 1, 0]⟩ w5 hbuf5 (by omega) h1 (by show _ + 8 ≤ _; omega)).mono ?_
        rintro e w6 ⟨rfl, hbuf6, hb6, hk6⟩
        have hs6 := hb6.size
        have HG6 : Hid (w6.heap[w4.heap.size]? = some (.cells (Lib.byteCells (Lib.leBytes 2 (S.size % 65536))).toArray 60 (0, 0))) := hk6 _ _ HG.out (by have := hbuf.lt; simp; omega) (by simp)
        clear HG hbuf5 hk6
        go_wp2_with fail
        have hm43 := meth43w
        have hn43 := nil43w
        go_region_with (go_at_call 74; refine (bufw_at (b := b) (g := w4.heap.size) w6 hbuf6 (by omega) (by have := hbuf.lt; omega) (app_one h1 _) (by simp [Lib.byteCells]; omega) HG6.out).mono ?_; rintro e w7 ⟨rfl, hbuf7, hb7⟩)
        have hs7 := hb7.size
        clear hbuf6 HG6 hm43 hn43
        go_wp2_with fail
        refine (wrs_any B b _ S w7 hbuf7 (by omega) (app_one (app_one h1 _) _) (by simp [Lib.byteCells, leBytes2_length]; omega)).mono ?_
        rintro e w8 ⟨rfl, hbuf8, hb8, _⟩
        go_wp2_with fail
        go_end0
        exact ⟨rfl, hdr_cells hS2.out hbuf8, (((hB5.mono hBw).trans hb6).trans hb7).trans hb8⟩
      · have hkb : ((k : Int) == 1) = false := beq_eq_false_iff_ne.2 (by omega)
        have hT := (hJ2 hk1)
        have hTs : J.size ≤ 1600001 := by omega
        clear hk1 hJ1 hJ2
        have hsp := sprintf_run F d J w3.heap.size (w3.alloc (.cells #[.iface 9 (.string d), .iface 9 (.string J)] 20)) (by simpa using hF3) (by omega) (by omega) (by simp) (by simp)
        rw [hT.out] at hsp
        obtain ⟨D, hD, hDs, hD2⟩ : ∃ D : ByteArray, (⟨(dict d.data.toList (tup zs)).toArray⟩ : ByteArray) = D ∧ D.size ≤ 2700000 ∧ Hid (D.data.toList = dict d.data.toList (tup zs)) := dict_str hd hTs hT.out
        rw [hD] at hsp
        clear hD hT hTs
        go_wp2_with fail
        rw [show (((10 : Int) + D.size + 1 + 64 - 1) / 64 * 64 - 10 - D.size - 1) = ((padLen D.size : Nat) : Int) from by unfold padLen; omega]
        have hpl : padLen D.size ≤ 64 := by unfold padLen; omega
        refine (Tryf.strings_Repeat ⟨#[32]⟩ (padLen D.size) _ (by omega) (by show 1 * _ ≤ _; omega)).mono ?_
        rintro e w4 ⟨rfl, hb4⟩
        have hB4 : Below w.heap.size w w4 := (hB3.alloc hB3.size _).drew.trans (hb4.mono (by simp; exact Nat.le_trans hB3.size (Nat.le_succ _)))
        obtain ⟨R, hR, hRs, hR2⟩ : ∃ R : ByteArray, (⟨(Lib.repeatL (⟨#[32]⟩ : ByteArray).data.toList (padLen D.size)).toArray⟩ : ByteArray) = R ∧ R.size ≤ 64 ∧ Hid (R.data.toList = List.replicate (padLen D.size) 32) := blanks_str hpl
        rw [hR]
        clear hR hb4 hsp hpl hB3 hF3 hJs hkb
        obtain ⟨S, hS, hSs, hS2⟩ : ∃ S : ByteArray, D ++ R ++ ⟨#[10]⟩ = S ∧ S.size ≤ 2800000 ∧ Hid (S.data.toList = body (dict d.data.toList (tup zs))) := body_str hDs hRs hD2.out hR2.out
        have hadd1 : ∀ W, (Op.stringOp .add D R).run Tryf.prog W = .ok (.string (D ++ R)) W := fun W => run_string_add_sum W D R (by omega)
        have hadd2 : ∀ W, (Op.stringOp .add (D ++ R) ⟨#[10]⟩).run Tryf.prog W = .ok (.string S) W := fun W => by rw [← hS]; exact run_string_add_sum W (D ++ R) ⟨#[10]⟩ (by rw [ByteArray.size_append]; show D.size + R.size + 1 ≤ _; omega)
        clear hS hD2 hR2
        go_wp2_with fail
        clear hadd1 hadd2
        go_region_with (go_at_call 22; refine (put16_at w4 S.size).mono ?_; rintro e w5 ⟨rfl, hg5, hb5⟩)
        have hB5 : Below w.heap.size w w5 := (hB4.alloc hB4.size _).drew.trans (hb5.mono hB4.size)
        have hbuf5 := buf_below hbuf hB5
        have HG : Hid (w5.heap[w4.heap.size]? = some (.cells (Lib.byteCells (Lib.leBytes 2 (S.size % 65536))).toArray 60 (0, 0))) := hg5
        have hs4 := hB4.size
        have hs5 := hB5.size
        clear hg5 hb5 hB4
        go_wp2_with fail
        refine (wrs_any B b bs ⟨#[147, 78, 85, 77, 80, 89, 1, 0]⟩ w5 hbuf5 (by omega) h1 (by show _ + 8 ≤ _; omega)).mono ?_
        rintro e w6 ⟨rfl, hbuf6, hb6, hk6⟩
        have hs6 := hb6.size
        have HG6 : Hid (w6.heap[w4.heap.size]? = some (.cells (Lib.byteCells (Lib.leBytes 2 (S.size % 65536))).toArray 60 (0, 0))) := hk6 _ _ HG.out (by have := hbuf.lt; simp; omega) (by simp)
        clear HG hbuf5 hk6
        go_wp2_with fail
        have hm43 := meth43w
        have hn43 := nil43w
        go_region_with (go_at_call 74; refine (bufw_at (b := b) (g := w4.heap.size) w6 hbuf6 (by omega) (by have := hbuf.lt; omega) (app_one h1 _) (by simp [Lib.byteCells]; omega) HG6.out).mono ?_; rintro e w7 ⟨rfl, hbuf7, hb7⟩)
        have hs7 := hb7.size
        clear hbuf6 HG6 hm43 hn43
        go_wp2_with fail
        refine (wrs_any B b _ S w7 hbuf7 (by omega) (app_one (app_one h1 _) _) (by simp [Lib.byteCells, leBytes2_length]; omega)).mono ?_
        rintro e w8 ⟨rfl, hbuf8, hb8, _⟩
        go_wp2_with fail
        go_end0
        exact ⟨rfl, hdr_cells hS2.out hbuf8, (((hB5.mono hBw).trans hb6).trans hb7).trans hb8⟩

end Go.Proofs.Qxb6616758aFmt
