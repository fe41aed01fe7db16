import Derived.Test.Qxb6616758aFmtHdr2
import Derived.Test.Qxb6616758aFmtWin
/- What writeVectors stands on. -/
namespace Go.Proofs.Qxb6616758aFmt
open Go.RowKit Go.Stop

theorem bits26 (x : Nat) (W : World) : (callFunc 26 #[.float .f32 x]).run Tryf.prog W = .ok (.value (.int .u32 (x : Int))) W := by kernel_rfl

/-- A slice of float32s, as far as it is read; it lies below B. -/
def Floats (w : World) (B : Nat) (a : Option Addr) (xs : List Nat) : Prop :=
  (a = none → xs = []) ∧ (∀ x, a = some x → ∀ j v, xs[j]? = some v → x.block < B ∧ w.cell? (x.add j) = some (.float .f32 v)) ∧ ∀ v ∈ xs, v < 4294967296

theorem Floats.below {w w' : World} {B : Nat} {a : Option Addr} {xs : List Nat} (h : Floats w B a xs) (hb : Below B w w') : Floats w' B a xs := by
  refine ⟨h.1, fun x hx j v hv => ?_, h.2.2⟩
  obtain ⟨q1, q2⟩ := h.2.1 x hx j v hv
  refine ⟨q1, ?_⟩
  rw [hb.cell (p := x.add j) (by rw [Lib.block_add]; exact q1)]
  exact q2

theorem Floats.at {w : World} {B : Nat} {a : Option Addr} {xs : List Nat} (h : Floats w B a xs) (k : Nat) (hk : k < xs.length) :
    ∃ b off, a = some ⟨b, off, none⟩ ∧ w.cell? ⟨b, off + k, none⟩ = some (.float .f32 (xs.getD k 0)) ∧ xs.getD k 0 < 4294967296 := by
  obtain ⟨hn, hc, hlt⟩ := h
  cases a with
  | none => rw [hn rfl] at hk; simp at hk
  | some x =>
    obtain ⟨b, off, sp⟩ := x
    have hz : xs[k]? = some (xs.getD k 0) := by rw [List.getElem?_eq_getElem hk]; simp [List.getD, hk]
    have hl : xs.getD k 0 < 4294967296 := hlt _ (List.mem_of_getElem? hz)
    cases sp with
    | none =>
      have h0 := (hc _ rfl k _ hz).2
      rw [add_at] at h0
      exact ⟨b, off, rfl, h0, hl⟩
    | some s =>
      have hz0 : xs[0]? = some (xs.getD 0 0) := by rw [List.getElem?_eq_getElem (by omega)]; simp [List.getD, show 0 < xs.length by omega]
      have h0 := (hc _ rfl 0 _ hz0).2
      exfalso
      simp only [World.cell?, Addr.add] at h0
      split at h0 <;> simp at h0

/-- The words of a list of bit patterns, little-endian. -/
def words (xs : List Nat) : List UInt8 := (xs.map (Lib.leBytes 4)).flatten

theorem leBytes4_length (v : Nat) : (Lib.leBytes 4 v).length = 4 := by simp [Lib.leBytes]
theorem words_length (xs : List Nat) : (words xs).length = 4 * xs.length := by
  induction xs with
  | nil => rfl
  | cons x xs ih =>
    unfold words at *
    rw [List.map_cons, List.flatten_cons, List.length_append, ih, leBytes4_length, List.length_cons]
    omega
theorem words_succ (xs : List Nat) (k : Nat) (hk : k < xs.length) : words (xs.take (k + 1)) = words (xs.take k) ++ Lib.leBytes 4 (xs.getD k 0) := by
  unfold words
  rw [List.take_succ_eq_append_getElem hk, List.map_append, List.flatten_append]
  simp [List.getD, hk]

/-- 'binary.LittleEndian.PutUint32(buf[:], v)', buf a [4]byte of the call's own, behind the draw. -/
theorem put32_at (g v : Nat) (hv : v < 4294967296) (x0 x1 x2 x3 : Value) (W : World) (hg : W.heap[g]? = some (.cells #[x0, x1, x2, x3] 70 (0, 0))) :
    Calls Tryf.prog 25 #[.agg #[], .slice (some ⟨g, 0, none⟩) 4 4, .int .u32 (v : Int)] W.drew fun e W' => e = .returned (.tuple #[]) ∧ W'.heap[g]? = some (.cells (Lib.byteCells (Lib.leBytes 4 v)).toArray 70 (0, 0)) ∧ (∀ k, k < W.heap.size → k ≠ g → W'.heap[k]? = W.heap[k]?) ∧ Below g W W' := by
  have hlt := lt_of_block hg
  have c0 : W.drew.cell? ⟨g, 0, none⟩ = some x0 := cell_of_row W g 0 _ _ _ hg
  have c1 : W.drew.cell? ⟨g, 0 + 1, none⟩ = some x1 := cell_of_row W g 1 _ _ _ hg
  have c2 : W.drew.cell? ⟨g, 0 + 2, none⟩ = some x2 := cell_of_row W g 2 _ _ _ hg
  have c3 : W.drew.cell? ⟨g, 0 + 3, none⟩ = some x3 := cell_of_row W g 3 _ _ _ hg
  refine (Tryf.binary_LE_PutUint32 g 0 4 4 v hv x0 x1 x2 x3 W.drew (by omega) c0 c1 c2 c3 (frozen_of_row W g 0 _ _ hg) (frozen_of_row W g 1 _ _ hg) (frozen_of_row W g 2 _ _ hg) (frozen_of_row W g 3 _ _ hg)).mono ?_
  rintro e w' ⟨rfl, rfl⟩
  have hg1 : (W.drew.alloc (.cells #[] 62)).heap[g]? = some (.cells #[x0, x1, x2, x3] 70 (0, 0)) := (Below.heap_alloc W.drew (.cells #[] 62) g hlt).trans hg
  have hb1 : Below g W (W.drew.alloc (.cells #[] 62)) := ((Below.refl g W).drew).alloc (Nat.le_of_lt hlt) _
  refine ⟨rfl, ?_, ?_, ?_⟩
  · have h1 := heap_setCell_same _ g 0 _ 70 (.int .u8 ((v % 256).toUInt8.toNat : Int)) hg1
    have h2 := heap_setCell_same _ g 1 _ 70 (.int .u8 ((v / 256 % 256).toUInt8.toNat : Int)) h1
    have h3 := heap_setCell_same _ g 2 _ 70 (.int .u8 ((v / 256 / 256 % 256).toUInt8.toNat : Int)) h2
    have h4 := heap_setCell_same _ g 3 _ 70 (.int .u8 ((v / 256 / 256 / 256 % 256).toUInt8.toNat : Int)) h3
    exact h4
  · intro k hk hkg
    show ((((W.drew.alloc (.cells #[] 62)).setCell ⟨g, 0, none⟩ _).setCell ⟨g, 0 + 1, none⟩ _).setCell ⟨g, 0 + 1 + 1, none⟩ _).setCell ⟨g, 0 + 1 + 1 + 1, none⟩ _ |>.heap[k]? = _
    rw [Below.heap_setCell _ _ _ _ hkg, Below.heap_setCell _ _ _ _ hkg, Below.heap_setCell _ _ _ _ hkg, Below.heap_setCell _ _ _ _ hkg]
    exact Below.heap_alloc W.drew (.cells #[] 62) k hk
  · exact (((hb1.setCell (p := ⟨g, 0, none⟩) (Nat.le_refl _) _).setCell (p := ⟨g, 0 + 1, none⟩) (Nat.le_refl _) _).setCell (p := ⟨g, 0 + 1 + 1, none⟩) (Nat.le_refl _) _).setCell (p := ⟨g, 0 + 1 + 1 + 1, none⟩) (Nat.le_refl _) _

/-- The writer has taken L; all in fours. -/
def St (bw r b : Nat) (L : List Value) (w : World) : Prop := ∃ fl pd, BW b bw r b fl pd w ∧ Begun b fl w ∧ fl ++ pd = L ∧ fl.length % 4 = 0 ∧ pd.length % 4 = 0 ∧ 1 ≤ pd.length

/-- A [4]byte's block may turn. -/
theorem St.keep {bw r b g : Nat} {L : List Value} {w w' : World} {c : Array Value} {fz : Nat × Nat} (h : St bw r b L w) (hg : w.heap[g]? = some (.cells c 70 fz)) (hk : ∀ k, k < w.heap.size → k ≠ g → w'.heap[k]? = w.heap[k]?) (hs : w.heap.size ≤ w'.heap.size) : St bw r b L w' := by
  obtain ⟨fl, pd, ⟨a1, ⟨R, r1, r2, r3⟩, a3, a4, a5, a6, a7, a8, a9, a10, a11, a12⟩, hbg, hL, h1, h2, h3⟩ := h
  have hne : ∀ (i : Nat) (o : Obj), w.heap[i]? = some o → (∀ c fz, o ≠ .cells c 70 fz) → w'.heap[i]? = some o := by
    intro i o hi ho
    rw [hk i (lt_of_block hi) ?_]
    · exact hi
    · intro e
      subst e
      rw [hg] at hi
      injection hi with hi
      exact ho _ _ hi.symm
  have hbb : w'.heap[b]? = w.heap[b]? := by
    obtain ⟨_, v, lr, q, _⟩ := a4
    rw [q]
    exact hne b _ q (by simp)
  refine ⟨fl, pd, ⟨hne bw _ a1 (by simp), ⟨R, hne r _ r1 (by simp), r2, r3⟩, a3, ?_, ?_, a6, a7, Nat.le_trans a8 hs, a9, a10, a11, a12⟩, ?_, hL, h1, h2, h3⟩
  · obtain ⟨b1, v, lr, b2, ⟨c1, c2⟩, b4⟩ := a4
    refine ⟨b1, v, lr, hbb.trans b2, ⟨c1, ?_⟩, b4⟩
    rcases c2 with c2 | ⟨g2, cap, cur, e1, e2, e3, e4⟩
    · exact .inl c2
    · exact .inr ⟨g2, cap, cur, e1, e2, hne g2 _ e3 (by simp), e4⟩
  · intro g2 l c2 x y T fz2 hx
    rw [hbb] at hx
    exact a5 g2 l c2 x y T fz2 hx
  · rcases hbg with ⟨e, lr, q⟩ | q
    · exact .inl ⟨e, lr, hbb.trans q⟩
    · exact .inr q

theorem St.same {bw r b : Nat} {L : List Value} {w w' : World} (h : St bw r b L w) (hh : w'.heap = w.heap) : St bw r b L w' := by
  obtain ⟨fl, pd, q1, q2, q3⟩ := h
  exact ⟨fl, pd, q1.same hh, q2.same hh, q3⟩

theorem St.below {bw r b : Nat} {L : List Value} {w w' : World} (h : St bw r b L w) (hb : Below w.heap.size w w') : St bw r b L w' := by
  obtain ⟨fl, pd, q1, q2, q3⟩ := h
  exact ⟨fl, pd, q1.below hb, begun_below q2 hb, q3⟩

theorem word_st (bw r b g v : Nat) (L : List Value) (W : World) (h : St bw r b L W) (hgw : g ≠ bw) (hgb : g ≠ b) (hlim : L.length ≤ 8589934592) (hg : W.heap[g]? = some (.cells (Lib.byteCells (Lib.leBytes 4 v)).toArray 70 (0, 0))) :
    Calls Tryf.prog 27 #[.pointer (some ⟨bw, 0, none⟩), .slice (some ⟨g, 0, none⟩) 4 4] W fun e w' => e = .returned (.tuple #[.int .i64 4, .nilIface]) ∧ St bw r b (L ++ Lib.byteCells (Lib.leBytes 4 v)) w' ∧ Fr b bw b W w' := by
  obtain ⟨fl, pd, q1, q2, q3, m1, m2, m3⟩ := h
  have h4 : (Lib.byteCells (Lib.leBytes 4 v)).length = 4 := by rw [Lib.byteCells_length, leBytes4_length]
  have hll : fl.length ≤ L.length := by rw [← q3, List.length_append]; omega
  refine (bww_any b bw r b 4 4 ⟨g, 0, none⟩ fl pd (Lib.byteCells (Lib.leBytes 4 v)) W q1 q2 h4 (by omega) (by omega) (Lib.byteCells_one _) (fun wr hfr j x hx => ?_) (by have := q1.room; omega) (by omega)).mono ?_
  · have q := hfr.2 g _ hg hgw hgb (by simp)
    rw [add_at, Nat.zero_add, cell_of_row _ _ _ _ _ _ q]
    simpa using hx
  · rintro e w' ⟨rfl, hfr, fl', pd', h2, h3, hc⟩
    refine ⟨rfl, ⟨fl', pd', h2, h3, ?_⟩, hfr⟩
    rcases hc with ⟨rfl, rfl⟩ | ⟨rfl, rfl, hx⟩
    · refine ⟨by rw [← q3, List.append_assoc], m1, ?_, ?_⟩ <;> rw [List.length_append, h4] <;> omega
    · exact ⟨by rw [← q3], by rw [List.length_append]; omega, by omega, by omega⟩

theorem flush_st (bw r b : Nat) (L : List Value) (W : World) (h : St bw r b L W) (h64 : 64 < L.length) (hlim : L.length ≤ 8589934592) :
    Calls Tryf.prog 28 #[.pointer (some ⟨bw, 0, none⟩)] W fun e w' => e = .returned .nilIface ∧ Lib.IsBuffer 41 5 b b L w' ∧ Fr b bw b W w' := by
  obtain ⟨fl, pd, q1, q2, q3, m1, m2, m3⟩ := h
  have hll : fl.length ≤ L.length := by rw [← q3, List.length_append]; omega
  refine (flush_some b bw r b fl pd W q1 q2 ?_ m3 (by omega)).mono ?_
  · intro e
    rw [e, List.nil_append] at q3
    rw [q3]
    exact h64
  · rintro e w' ⟨rfl, h2, hfr⟩
    have := h2.buf
    rw [q3] at this
    exact ⟨rfl, this, hfr⟩

theorem tup2_small (n dim : Nat) (hn : n ≤ 65536) (hd : dim ≤ 65536) : (body (dict [60, 102, 52] (tup [(n : Int), (dim : Int)]))).length ≤ 65000 := by
  have h := tup_length [(n : Int), (dim : Int)] (by intro z hz; simp at hz; omega)
  have h2 := body_length (dict [60, 102, 52] (tup [(n : Int), (dim : Int)]))
  rw [dict_length] at h2
  simp at h h2
  omega

theorem hl2 (n dim : Nat) (hn : n ≤ 65536) (hd : dim ≤ 65536) : 64 < (hdr [60, 102, 52] [(n : Int), (dim : Int)]).length ∧ (hdr [60, 102, 52] [(n : Int), (dim : Int)]).length ≤ 1024 ∧ (hdr [60, 102, 52] [(n : Int), (dim : Int)]).length % 64 = 0 := by
  have h := tup_length [(n : Int), (dim : Int)] (by intro z hz; simp at hz; omega)
  have h2 := hdr_length [60, 102, 52] [(n : Int), (dim : Int)]
  simp at h h2
  omega

theorem len_st (n dim k : Nat) (xs : List Nat) (hn : n ≤ 65536) (hd : dim ≤ 65536) (hx : xs.length ≤ 262144) :
    64 < (Lib.byteCells (hdr [60, 102, 52] [(n : Int), (dim : Int)] ++ words (xs.take k))).length ∧ (Lib.byteCells (hdr [60, 102, 52] [(n : Int), (dim : Int)] ++ words (xs.take k))).length ≤ 8589934592 := by
  have h := hl2 n dim hn hd
  have h3 : (xs.take k).length ≤ xs.length := by simp; omega
  rw [Lib.byteCells_length, List.length_append, words_length]
  omega

theorem st_succ {bw r b k : Nat} {H : List UInt8} {xs : List Nat} {w : World} (hk : k < xs.length) (h : St bw r b (Lib.byteCells (H ++ words (xs.take k)) ++ Lib.byteCells (Lib.leBytes 4 (xs.getD k 0))) w) : St bw r b (Lib.byteCells (H ++ words (xs.take (k + 1)))) w := by
  rw [words_succ xs k hk, ← List.append_assoc, Lib.byteCells_append]
  exact h

theorem npy_at (F : Interp) (bw r b n dim : Nat) (w1 : World) (hF : F.told.answers w1.tape) (htab : TabOk w1) (h : BW b bw r b [] [] w1) (hbg : Begun b [] w1) (hn : n ≤ 65536) (hd : dim ≤ 65536) :
    Calls Tryf.prog 15 #[.iface 68 (.pointer (some ⟨bw, 0, none⟩)), .string ⟨#[60, 102, 52]⟩, .slice (some ⟨w1.heap.size, 0, none⟩) 2 2] (w1.alloc (.cells #[.int .i64 (n : Int), .int .i64 (dim : Int)] 3)).drew fun e w' => e = .returned (.tuple #[]) ∧
      St bw r b (Lib.byteCells (hdr [60, 102, 52] [(n : Int), (dim : Int)])) w' ∧ Fr b bw b w1 w' := by
  have hb1 : Below w1.heap.size w1 (w1.alloc (.cells #[.int .i64 (n : Int), .int .i64 (dim : Int)] 3)).drew := ((Below.refl _ _).alloc (Nat.le_refl _) _).drew
  have hnew : (w1.alloc (.cells #[.int .i64 (n : Int), .int .i64 (dim : Int)] 3)).drew.heap[w1.heap.size]? = some (.cells #[.int .i64 (n : Int), .int .i64 (dim : Int)] 3 (0, 0)) := heap_alloc_new w1 _
  have hz : Ints (w1.alloc (.cells #[.int .i64 (n : Int), .int .i64 (dim : Int)] 3)).drew (some ⟨w1.heap.size, 0, none⟩) 2 [(n : Int), (dim : Int)] := by
    refine ⟨rfl, by simp, ?_, by intro z hz; simp at hz; omega⟩
    intro x hx j v hv
    injection hx with hx
    subst hx
    rw [add_at, Nat.zero_add, cell_of_row _ _ _ _ _ _ hnew]
    match j, hv with
    | 0, hv => simp at hv; simp [hv]
    | 1, hv => simp at hv; simp [hv]
    | j + 2, hv => simp at hv
  refine (npy_bw F b bw r b ⟨#[60, 102, 52]⟩ _ 2 2 [(n : Int), (dim : Int)] (w1.alloc (.cells #[.int .i64 (n : Int), .int .i64 (dim : Int)] 3)).drew hF (htab.below hb1) (h.below hb1) (begun_below hbg hb1) (Nat.le_trans h.hBs hb1.size) (by decide) rfl hz (tup2_small n dim hn hd)).mono ?_
  rintro e w' ⟨rfl, q1, q2, q3⟩
  have hl := hdr_length [60, 102, 52] [(n : Int), (dim : Int)]
  refine ⟨rfl, ⟨[], _, q1, q2, rfl, rfl, ?_, ?_⟩, ((Fr.refl b bw b w1).below h.hBs hb1).trans q3⟩
  · show (Lib.byteCells (hdr [60, 102, 52] [(n : Int), (dim : Int)])).length % 4 = 0
    rw [Lib.byteCells_length]
    omega
  · show 1 ≤ (Lib.byteCells (hdr [60, 102, 52] [(n : Int), (dim : Int)])).length
    rw [Lib.byteCells_length]
    omega

end Go.Proofs.Qxb6616758aFmt
