import Derived.Test.Qxb6616758aFmtLaw5a
import Derived.Deep.CutRange
namespace Go.Proofs.Qxb6616758aFmt
open Go.RowKit Go.Stop

/-- The bits of a slice of float32s. -/
def flts (xs : List Nat) : List Value := xs.map (Value.float .f32)

theorem flts_one (xs : List Nat) : ∀ v ∈ flts xs, v.oneCell' = true := by
  intro v hv
  obtain ⟨s, _, rfl⟩ := List.mem_map.1 hv
  rfl

theorem floats_of {w : World} {a : Option Addr} {xs : List Nat} (h : Sl w a (flts xs)) (hx : ∀ x ∈ xs, x < 4294967296) (m : Nat) : Floats w w.heap.size a (xs.take m) := by
  refine ⟨fun e => ?_, fun x hx' j v hv => ?_, fun v hv => hx v (List.mem_of_mem_take hv)⟩
  · have := h.1 e
    have h2 : xs = [] := by simpa [flts] using this
    rw [h2]; simp
  · have hv2 : xs[j]? = some v := by
      rw [List.getElem?_take] at hv
      split at hv
      · exact hv
      · simp at hv
    have hc := h.2 x hx' j (.float .f32 v) (by simp [flts, hv2])
    refine ⟨?_, hc⟩
    have := World.block_lt_of_cell? _ _ hc
    rwa [Lib.block_add] at this

set_option maxHeartbeats 1600000 in
set_option maxRecDepth 100000 in
theorem law5_big (ia : Option Addr) (n ic : Nat) (ss : List ByteArray) (oa : Option Addr) (ol oc : Nat) (d : Int) (va : Option Addr) (vl vc : Nat) (w : World) (hs : Sl w ia (strs ss)) (hn : ss.length = n)
    (h : 65536 < n ∨ (n ≤ 65536 ∧ 262144 < ol) ∨ (n ≤ 65536 ∧ ol ≤ 262144 ∧ 262144 < vl)) :
    Calls Tryf.prog 5 #[.slice ia n ic, .slice oa ol oc, .int .i64 d, .slice va vl vc] w fun e w' => e = .returned (.bool true) ∧ Below w.heap.size w w' := by
  have hcall := bytes13_any ia n ic ss oa ol oc d va vl vc w hs hn
  clear hs hn
  rcases h with h1 | ⟨h1, h2⟩ | ⟨h1, h2, h3⟩
  all_goals
    go_enter Tryf.func5, Tryf.ntmps5
    go_wp2_with fail
    refine hcall.mono ?_
    rintro e w' ⟨t, rfl, _, rfl⟩
    cases t <;> go_wp2_with fail
    all_goals (go_ret; exact ⟨rfl, Below.refl _ _⟩)

theorem ints_two (w : World) (n dim : Nat) (hn : n ≤ 65536) (hd : dim ≤ 65536) : Ints (w.alloc (.cells #[.int .i64 (n : Int), .int .i64 (dim : Int)] 3)) (some ⟨w.heap.size, 0, none⟩) 2 [(n : Int), (dim : Int)] := by
  have hnew : (w.alloc (.cells #[.int .i64 (n : Int), .int .i64 (dim : Int)] 3)).heap[w.heap.size]? = some (.cells #[.int .i64 (n : Int), .int .i64 (dim : Int)] 3 (0, 0)) := heap_alloc_new w _
  refine ⟨rfl, by simp, ?_, by intro z hz; simp at hz; omega⟩
  intro x hx j v hv
  injection hx with hx
  subst hx
  rw [add_at, Nat.zero_add, cell_of_row _ _ _ _ _ _ hnew]
  match j, hv with
  | 0, hv => simp at hv; simp [hv]
  | 1, hv => simp at hv; simp [hv]
  | j + 2, hv => simp at hv

theorem hdr_dict (d : List UInt8) (zs : List Int) : At (hdr d zs) 10 (dict d (tup zs)) := by
  refine ⟨magic ++ Lib.leBytes 2 ((body (dict d (tup zs))).length % 65536), List.replicate (padLen (dict d (tup zs)).length) 32 ++ [10], ?_, ?_⟩
  · simp only [hdr, hdrOf, body, List.append_assoc]
  · simp [magic, leBytes2_length]

theorem dict_lit (k dim : Nat) (A D : ByteArray) (hA : A.data.toList = Lib.itoa (k : Int)) (hD : D.data.toList = Lib.itoa (dim : Int)) :
    ((((⟨#[123, 39, 100, 101, 115, 99, 114, 39, 58, 32, 39, 60, 102, 52, 39, 44, 32, 39, 102, 111, 114, 116, 114, 97, 110, 95, 111, 114, 100, 101, 114, 39, 58, 32, 70, 97, 108, 115, 101, 44, 32, 39, 115, 104, 97, 112, 101, 39, 58, 32, 40]⟩ : ByteArray) ++ A) ++ ⟨#[44, 32]⟩ ++ D) ++ ⟨#[41, 44, 32, 125]⟩ : ByteArray).data.toList = dict [60, 102, 52] (tup [(k : Int), (dim : Int)]) := by
  rw [ByteArray.data_append, ByteArray.data_append, ByteArray.data_append, ByteArray.data_append, Array.toList_append, Array.toList_append, Array.toList_append, Array.toList_append, hA, hD]
  simp [dict, tup, dHead, dMid, dTail, Lib.join]

set_option maxHeartbeats 3200000 in
set_option maxRecDepth 100000 in
theorem law5_any (F : Interp) (ia : Option Addr) (n ic : Nat) (ss : List ByteArray) (oa : Option Addr) (ol oc : Nat) (os : List Value) (d : Int) (va : Option Addr) (vl vc : Nat) (xs : List Nat) (w : World) (hF : F.told.answers w.tape) (htab : TabOk w)
    (hs : Sl w ia (strs ss)) (hn : ss.length = n) (ho : Sl w oa os) (hol : os.length = ol) (hone : ∀ v ∈ os, v.oneCell' = true) (hv : Sl w va (flts xs)) (hvl : xs.length = vl) (hx : ∀ x ∈ xs, x < 4294967296) (hvc : vl ≤ vc)
    (b1 : n ≤ 65536) (b2 : ol ≤ 262144) (b3 : vl ≤ 262144) :
    Calls Tryf.prog 5 #[.slice ia n ic, .slice oa ol oc, .int .i64 d, .slice va vl vc] w fun e w' => e = .returned (.bool true) ∧ Below w.heap.size w w' := by
  have hcall := bytes13_any ia n ic ss oa ol oc d va vl vc w hs hn
  have q27 : ∀ (w : World) (x : Option Addr) (n c : Nat), (binOp .neq 27 (.slice x n c) (.slice none 0 0)).run Tryf.prog w = .ok (.bool (!x.isNone)) w := fun w x n c => run_neq_slice_nil_any w _ _ x n c 0 0 Tryf.underlying27
  have q28 : ∀ (w : World) (x : Option Addr) (n c : Nat), (binOp .neq 28 (.slice x n c) (.slice none 0 0)).run Tryf.prog w = .ok (.bool (!x.isNone)) w := fun w x n c => run_neq_slice_nil_any w _ _ x n c 0 0 Tryf.underlying28
  have q29 : ∀ (w : World) (x : Option Addr) (n c : Nat), (binOp .neq 29 (.slice x n c) (.slice none 0 0)).run Tryf.prog w = .ok (.bool (!x.isNone)) w := fun w x n c => run_neq_slice_nil_any w _ _ x n c 0 0 Tryf.underlying29
  have HN := Lib.hid hn
  have HOL := Lib.hid hol
  have HVL := Lib.hid hvl
  have HX := Lib.hid hx
  have HO1 := Lib.hid hone
  clear hn hol hvl hx hone
  go_enter Tryf.func5, Tryf.ntmps5
  go_wp2_with fail
  refine hcall.mono ?_
  rintro e w' ⟨t, rfl, ht, hw⟩
  subst hw
  cases t
  · go_wp2_with fail
    go_ret
    exact ⟨rfl, Below.refl _ _⟩
  have HSZ : Hid (∀ s ∈ ss, s.size ≤ 1048576) := (ht rfl).2
  clear ht hcall
  go_upto_if 41 with fail
  go_cut [0, 9] from 42 to 48 (fun v _ wx => ∃ a c, v = .slice a n c ∧ Sl wx a (strs ss) ∧ Below w'.heap.size w' wx)
  case first =>
    cases ia with
    | none =>
      go_wp2_with fail
      go_meet
      exact ⟨none, ic, rfl, hs, Below.refl _ _⟩
    | some x =>
      obtain ⟨w1, w2, hm1, hp1, k2, bb⟩ := clone_any 27 9 (.string ⟨#[]⟩) 16 Tryf.underlying27 Tryf.info9 (by omega) (len := n) (c := ic) hs (by rw [strs, List.length_map]; exact HN.out) (strs_one ss) (by omega)
      go_wp2_with fail
      go_meet
      exact ⟨_, _, rfl, k2, bb⟩
  case rest =>
    obtain ⟨ia1, ic1, rfl, hs1, bb1⟩ := hcut
    have ho1 := ho.below bb1
    have hv1 := hv.below bb1
    clear hs ho hv
    rename World => wa
    go_upto_if 50 with fail
    go_cut [1, 10] from 51 to 57 (fun v _ wx => ∃ a c, v = .slice a ol c ∧ Sl wx ia1 (strs ss) ∧ Sl wx va (flts xs) ∧ Below w'.heap.size w' wx)
    case first =>
      cases oa with
      | none =>
        go_wp2_with fail
        go_meet
        exact ⟨none, oc, rfl, hs1, hv1, bb1⟩
      | some x =>
        obtain ⟨w1, w2, hm1, hp1, k2, bb⟩ := clone_any 28 52 (.int .u32 0) 4 Tryf.underlying28 Tryf.info52 (by omega) (c := oc) ho1 HOL.out HO1.out (by omega)
        go_wp2_with fail
        go_meet
        exact ⟨_, _, rfl, hs1.below bb, hv1.below bb, bb1.trans (bb.mono bb1.size)⟩
    case rest =>
      obtain ⟨oa1, oc1, rfl, hs2, hv2, bb2⟩ := hcut
      clear hs1 ho1 hv1
      rename World => wb
      go_upto_if 59 with fail
      go_cut [3, 11] from 60 to 66 (fun v _ wx => ∃ a c, v = .slice a vl c ∧ vl ≤ c ∧ Sl wx ia1 (strs ss) ∧ Sl wx a (flts xs) ∧ Below w'.heap.size w' wx)
      case first =>
        cases va with
        | none =>
          go_wp2_with fail
          go_meet
          exact ⟨none, vc, rfl, hvc, hs2, hv2, bb2⟩
        | some x =>
          obtain ⟨w1, w2, hm1, hp1, k2, bb⟩ := clone_any 29 35 (.float .f32 0) 4 Tryf.underlying29 Tryf.info35 (by omega) (len := vl) (c := vc) hv2 (by rw [flts, List.length_map]; exact HVL.out) (flts_one xs) (by omega)
          go_wp2_with fail
          go_meet
          exact ⟨_, _, rfl, Nat.le_refl _, hs2.below bb, k2, bb2.trans (bb.mono bb2.size)⟩
      case rest =>
        obtain ⟨va1, vc1, rfl, hvc1, hs3, hv3, bb3⟩ := hcut
        clear hs2 hv2 q27 q28 q29
        rename World => wd
        have hFd : F.told.answers wd.tape := by rw [bb3.tape]; exact hF
        have htd := htab.below bb3
        clear hF htab bb1 bb2 hvc HO1 HOL
        by_cases hbig : 1048576 < 16 * n + 4 * ol + 4 * vl
        · go_wp2_with fail
          go_ret
          exact ⟨rfl, bb3⟩
        go_wp2_with fail
        go_loopw [12, 82, 14] (fun z i _ wr => ∃ k : Nat, k ≤ n ∧ i = .int .i64 k ∧ (∃ y : Int, z = .int .i64 y ∧ 0 ≤ y ∧ y ≤ 1048576) ∧ wr = wd) (fun _ i _ _ => n - (intOf i).toNat)
        case atStart => exact ⟨0, Nat.zero_le _, rfl, ⟨_, rfl, by omega, by omega⟩, rfl⟩
        case round =>
          obtain ⟨k, hk, rfl, ⟨y, rfl, hy0, hy1⟩, rfl⟩ := hrel
          by_cases hlt : k < n
          · have hkk : (strs ss)[k]? = some (.string (ss.getD k ⟨#[]⟩)) := by
              have : k < ss.length := by rw [HN.out]; exact hlt
              simp [strs, List.getD, this]
            obtain ⟨b, off, rfl, hc⟩ := hs3.at k _ hkk
            obtain ⟨s, hss⟩ : ∃ s, s = ss.getD k ⟨#[]⟩ := ⟨_, rfl⟩
            rw [← hss] at hc
            have hsz : s.size ≤ 1048576 := by
              have hk2 : k < ss.length := by rw [HN.out]; exact hlt
              refine HSZ.out s ?_
              rw [hss, List.getD, List.getElem?_eq_getElem hk2]
              exact List.getElem_mem _
            clear hss hkk
            by_cases hsum : 1048576 < y + s.size
            · go_wp2_with fail
              go_ret
              exact ⟨rfl, bb3⟩
            · go_wp2_with fail
              go_roundw
              case rel => exact ⟨k + 1, by omega, by go_num, ⟨_, rfl, by omega, by omega⟩, by first | trivial | rfl⟩
              case measure => simp [intOf]; omega
          · obtain rfl : k = n := by omega
            by_cases hd0 : d < 0
            · go_wp2_with fail
              go_ret
              exact ⟨rfl, bb3⟩
            by_cases hd1 : 65536 < d
            · go_wp2_with fail
              go_ret
              exact ⟨rfl, bb3⟩
            obtain ⟨dim, rfl⟩ := Int.eq_ofNat_of_zero_le (by omega : 0 ≤ d)
            have hdim : dim ≤ 65536 := by omega
            obtain ⟨q, hqd⟩ : ∃ q, q = vl / dim := ⟨_, rfl⟩
            have hq3 : q ≤ vl := by rw [hqd]; exact Nat.div_le_self _ _
            have hw : wrap64 ((vl : Int) / (dim : Int)) = (q : Int) := by
              rw [← Int.natCast_ediv, ← hqd, wrap64]
              omega
            have HQ := Lib.hid hqd
            clear hqd
            by_cases hdv : 0 < dim ∧ q < k
            · obtain ⟨hp, hq⟩ := hdv
              have hp2 : ¬ (dim : Int) = 0 := by omega
              go_wp2_with fail
              go_ret
              exact ⟨rfl, bb3⟩
            have hnd : Hid (k * dim ≤ vl) := by
              show k * dim ≤ vl
              rcases Nat.eq_zero_or_pos dim with e | e
              · rw [e, Nat.mul_zero]; exact Nat.zero_le _
              · have h2 : k ≤ vl / dim := by rw [← HQ.out]; omega
                exact (Nat.le_div_iff_mul_le e).1 h2
            have hxl : Hid ((xs.take (k * dim)).length = k * dim) := by
              show (xs.take (k * dim)).length = k * dim
              rw [List.length_take, HVL.out]
              have := hnd.out
              omega
            have hfl := floats_of hv3 HX.out (k * dim)
            have hcall := zzv_any F ia1 k ic1 oa1 ol oc1 dim va1 vl vc1 (xs.take (k * dim)) wr hFd htd b1 hdim hnd hvc1 b3 hxl hfl
            obtain ⟨L, hL⟩ : ∃ L, L = file k dim (xs.take (k * dim)) := ⟨_, rfl⟩
            rw [← hL] at hcall
            have HL := Lib.hid hL
            have hlen : Hid (L.length = (hdr [60, 102, 52] [(k : Int), (dim : Int)]).length + 4 * (k * dim)) := by
              show L.length = _
              rw [hL, file, List.length_append, words_length, hxl.out]
            clear hL hfl hs3 hv3 HX HSZ HVL HN
            have hstart : 0 < dim ∧ k ≤ q ∨ ¬ 0 < dim := by omega
            go_upto_region 29 with fail
            go_cut [109] from 99 to 109 (fun c wx => c = .bool false ∧ wx = wr)
            case first =>
              rcases hstart with ⟨hp, hq⟩ | hp
              · have hp2 : ¬ (dim : Int) = 0 := by omega
                go_wp2_with fail
                go_meet
                exact ⟨by rw [decide_eq_false (by omega)], rfl⟩
              · have hp2 : ¬ 0 < (dim : Int) := by omega
                go_wp2_with fail
                go_meet
                exact ⟨rfl, rfl⟩
            case rest =>
              obtain ⟨rfl, rfl⟩ := hcut
              rename World => wf
              clear hw HQ hq3 hdv hstart
              go_wp2_with fail
              refine hcall.mono ?_
              rintro e w5 ⟨g5, c5, rfl, y5, b5⟩
              have hF5 : F.told.answers w5.tape := by rw [b5.tape]; exact hFd
              have ht5 := htd.below b5
              have hB5 : Below w'.heap.size w' w5 := bb3.trans (b5.mono bb3.size)
              have hz : Ints (w5.alloc (.cells #[.int .i64 (k : Int), .int .i64 (dim : Int)] 3)) (some ⟨w5.heap.size, 0, none⟩) 2 [(k : Int), (dim : Int)] := ints_two w5 k dim b1 hdim
              have ba : Below w5.heap.size w5 (w5.alloc (.cells #[.int .i64 (k : Int), .int .i64 (dim : Int)] 3)) := (Below.refl _ _).alloc (Nat.le_refl _) _
              clear hcall htd hFd b5 bb3
              go_wp2_with fail
              refine (zznpy_any F ⟨#[60, 102, 52]⟩ (some ⟨w5.heap.size, 0, none⟩) 2 2 [(k : Int), (dim : Int)] (w5.alloc (.cells #[.int .i64 (k : Int), .int .i64 (dim : Int)] 3)) hF5 (ht5.below ba) (by decide) (by omega) hz).mono ?_
              rintro e w6 ⟨g6, c6, rfl, y6, b6⟩
              have y56 := (y5.below ba).below b6
              have hB6 : Below w'.heap.size w' w6 := hB5.trans ((ba.trans (b6.mono ba.size)).mono hB5.size)
              clear hz ba b6 y5 hB5 hF5 ht5
              obtain ⟨lh1, lh2, lh3⟩ := hl2 k dim b1 hdim
              have HAT : Hid (At (hdr [60, 102, 52] [(k : Int), (dim : Int)]) 10 (dict [60, 102, 52] (tup [(k : Int), (dim : Int)]))) := hdr_dict _ _
              have HPR : Hid (∀ i, i < (hdr [60, 102, 52] [(k : Int), (dim : Int)]).length → L[i]? = (hdr [60, 102, 52] [(k : Int), (dim : Int)])[i]?) := by
                intro i hi
                rw [HL.out, file, List.getElem?_append_left hi]
              have HD : (⟨#[60, 102, 52]⟩ : ByteArray).data.toList = [60, 102, 52] := rfl
              rw [HD] at y6 ⊢
              clear HD
              obtain ⟨H, hH⟩ : ∃ H, H = hdr [60, 102, 52] [(k : Int), (dim : Int)] := ⟨_, rfl⟩
              rw [← hH] at lh1 lh2 lh3 HAT HPR hlen y6 ⊢
              clear hH HL
              obtain ⟨lh, hlh⟩ : ∃ lh, lh = H.length := ⟨_, rfl⟩
              rw [← hlh] at lh1 lh2 lh3 hlen HPR ⊢
              have HLH := Lib.hid hlh
              clear hlh
              obtain ⟨lo, hlo⟩ : ∃ lo, lo = L.length := ⟨_, rfl⟩
              rw [← hlo] at hlen ⊢
              have HLO := Lib.hid hlo
              clear hlo
              obtain ⟨M, hM⟩ : ∃ M, M = 4 * (k * dim) := ⟨_, rfl⟩
              have hMi : 4 * (k : Int) * (dim : Int) = (M : Int) := by rw [hM]; push_cast; rw [Int.mul_assoc]
              have hMb : M ≤ 1048576 := by have := hnd.out; omega
              have hlob : lo = lh + M := by rw [hM]; exact hlen.out
              have hloi : ((lo : Int) == (lh : Int) + (M : Int)) = true := beq_iff_eq.2 (by omega)
              have hm1 : (lh : Int) % 64 = 0 := by omega
              have hm2 : (lh : Int).tmod 64 = 0 := by rw [Int.tmod_eq_emod_of_nonneg (by omega)]; exact hm1
              have hlob2 : lo ≤ 1050000 := by omega
              have hlol : lh ≤ lo := by omega
              have HLL := Lib.hid hlob
              clear hM hlob hlen hnd
              go_wp2_with fail
              go_loopw [19] (fun i wr => ∃ m : Nat, m ≤ lh ∧ i = .int .i64 m ∧ ∃ q, wr = w6.drewN q) (fun i _ => lh - (intOf i).toNat)
              case atStart => exact ⟨0, Nat.zero_le _, rfl, 0, rfl⟩
              case round =>
                obtain ⟨m, hm, rfl, q, rfl⟩ := hrel
                by_cases hlt : m < lh
                · obtain ⟨c, hca, hcb⟩ : ∃ c : UInt8, w6.cell? ⟨g5, m, none⟩ = some (.int .u8 (c.toNat : Int)) ∧ w6.cell? ⟨g6, m, none⟩ = some (.int .u8 (c.toNat : Int)) := by
                    have e1 : H[m]? = some (H[m]'(by rw [← HLH.out]; exact hlt)) := List.getElem?_eq_getElem _
                    have e2 := (HPR.out m hlt).trans e1
                    have c1 := y56 m _ e2
                    have c2 := y6 m _ e1
                    rw [add_at, Nat.zero_add] at c1 c2
                    exact ⟨_, c1, c2⟩
                  go_wp2_with fail
                  go_quiet (fail)
                  go_wp2_with fail
                  go_roundw
                  case rel => exact ⟨m + 1, by omega, by go_num, _, rfl⟩
                  case measure => simp [intOf]; omega
                · have hB7 := below_drewN hB6 q
                  have y7 : Bytes (w6.drewN q) ⟨g6, 0, none⟩ H := y6
                  clear y6 y56 HPR hB6
                  generalize w6.drewN q = w7 at *
                  go_wp2_with fail
                  refine (zzitoa_any k _ b1).mono ?_
                  rintro e w8 ⟨rfl, b8⟩
                  have y8 := y7.below b8
                  have hB8 : Below w'.heap.size w' w8 := hB7.trans (b8.mono hB7.size)
                  obtain ⟨A, hA⟩ : ∃ A : ByteArray, ⟨(Lib.itoa (k : Int)).toArray⟩ = A := ⟨_, rfl⟩
                  rw [hA]
                  have hAs : A.size ≤ 21 := by rw [← hA]; exact Lib.itoa_length_le (k : Int) (by omega) (by omega)
                  have HA : Hid (A.data.toList = Lib.itoa (k : Int)) := by rw [← hA]; rfl
                  clear hA y7 hB7 b8
                  have hadd1 : ∀ W, (Op.stringOp .add ⟨#[123, 39, 100, 101, 115, 99, 114, 39, 58, 32, 39, 60, 102, 52, 39, 44, 32, 39, 102, 111, 114, 116, 114, 97, 110, 95, 111, 114, 100, 101, 114, 39, 58, 32, 70, 97, 108, 115, 101, 44, 32, 39, 115, 104, 97, 112, 101, 39, 58, 32, 40]⟩ A).run Tryf.prog W = .ok (.string (⟨#[123, 39, 100, 101, 115, 99, 114, 39, 58, 32, 39, 60, 102, 52, 39, 44, 32, 39, 102, 111, 114, 116, 114, 97, 110, 95, 111, 114, 100, 101, 114, 39, 58, 32, 70, 97, 108, 115, 101, 44, 32, 39, 115, 104, 97, 112, 101, 39, 58, 32, 40]⟩ ++ A)) W := fun W => run_string_add_sum W ⟨#[123, 39, 100, 101, 115, 99, 114, 39, 58, 32, 39, 60, 102, 52, 39, 44, 32, 39, 102, 111, 114, 116, 114, 97, 110, 95, 111, 114, 100, 101, 114, 39, 58, 32, 70, 97, 108, 115, 101, 44, 32, 39, 115, 104, 97, 112, 101, 39, 58, 32, 40]⟩ A (by show 51 + _ ≤ _; omega)
                  obtain ⟨S1, hS1⟩ : ∃ S1 : ByteArray, ⟨#[123, 39, 100, 101, 115, 99, 114, 39, 58, 32, 39, 60, 102, 52, 39, 44, 32, 39, 102, 111, 114, 116, 114, 97, 110, 95, 111, 114, 100, 101, 114, 39, 58, 32, 70, 97, 108, 115, 101, 44, 32, 39, 115, 104, 97, 112, 101, 39, 58, 32, 40]⟩ ++ A = S1 := ⟨_, rfl⟩
                  have hS1s : S1.size ≤ 72 := by rw [← hS1, ByteArray.size_append]; show 51 + _ ≤ _; omega
                  rw [hS1] at hadd1
                  have H1 := Lib.hid hS1
                  clear hS1
                  have hadd2 : ∀ W, (Op.stringOp .add S1 ⟨#[44, 32]⟩).run Tryf.prog W = .ok (.string (S1 ++ ⟨#[44, 32]⟩)) W := fun W => run_string_add_sum W S1 ⟨#[44, 32]⟩ (by show _ + 2 ≤ _; omega)
                  obtain ⟨S2, hS2⟩ : ∃ S2 : ByteArray, S1 ++ ⟨#[44, 32]⟩ = S2 := ⟨_, rfl⟩
                  have hS2s : S2.size ≤ 74 := by rw [← hS2, ByteArray.size_append]; show _ + 2 ≤ _; omega
                  rw [hS2] at hadd2
                  have H2 := Lib.hid hS2
                  clear hS2
                  go_wp2_with fail
                  refine (zzitoa_any dim _ hdim).mono ?_
                  rintro e w9 ⟨rfl, b9⟩
                  have y9 := y8.below b9
                  have hB9 : Below w'.heap.size w' w9 := hB8.trans (b9.mono hB8.size)
                  obtain ⟨D, hD⟩ : ∃ D : ByteArray, ⟨(Lib.itoa (dim : Int)).toArray⟩ = D := ⟨_, rfl⟩
                  rw [hD]
                  have hDs : D.size ≤ 21 := by rw [← hD]; exact Lib.itoa_length_le (dim : Int) (by omega) (by omega)
                  have HD : Hid (D.data.toList = Lib.itoa (dim : Int)) := by rw [← hD]; rfl
                  clear hD y8 hB8 b9 hadd1 hadd2
                  have hadd3 : ∀ W, (Op.stringOp .add S2 D).run Tryf.prog W = .ok (.string (S2 ++ D)) W := fun W => run_string_add_sum W S2 D (by omega)
                  obtain ⟨S3, hS3⟩ : ∃ S3 : ByteArray, S2 ++ D = S3 := ⟨_, rfl⟩
                  have hS3s : S3.size ≤ 95 := by rw [← hS3, ByteArray.size_append]; omega
                  rw [hS3] at hadd3
                  have H3 := Lib.hid hS3
                  clear hS3
                  have hadd4 : ∀ W, (Op.stringOp .add S3 ⟨#[41, 44, 32, 125]⟩).run Tryf.prog W = .ok (.string (S3 ++ ⟨#[41, 44, 32, 125]⟩)) W := fun W => run_string_add_sum W S3 ⟨#[41, 44, 32, 125]⟩ (by show _ + 4 ≤ _; omega)
                  obtain ⟨S4, hS4⟩ : ∃ S4 : ByteArray, S3 ++ ⟨#[41, 44, 32, 125]⟩ = S4 := ⟨_, rfl⟩
                  rw [hS4] at hadd4
                  have H4 : Hid (S4.data.toList = dict [60, 102, 52] (tup [(k : Int), (dim : Int)])) := by
                    show S4.data.toList = _
                    rw [← hS4, ← H3.out, ← H2.out, ← H1.out]
                    exact dict_lit k dim A D HA.out HD.out
                  clear hS4
                  go_wp2_with fail
                  refine (has_any g6 lh c6 H 10 10 S4 _ (by exact y9) HLH.out.symm rfl (by rw [H4.out]; exact HAT.out) (by omega)).mono ?_
                  rintro e w10 ⟨rfl, q2, rfl⟩
                  go_wp2_with fail
                  go_ret
                  exact ⟨rfl, below_drewN hB9 _⟩

end Go.Proofs.Qxb6616758aFmt
