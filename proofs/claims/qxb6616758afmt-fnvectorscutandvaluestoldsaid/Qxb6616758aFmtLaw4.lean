import Derived.Test.Qxb6616758aFmtCut1
import Derived.Deep.CutRange
/- The law FnVectorsCutAndValues, walked. -/
namespace Go.Proofs.Qxb6616758aFmt
open Go.RowKit Go.Stop

set_option maxHeartbeats 1600000 in
set_option maxRecDepth 100000 in
theorem law4_big (ia : Option Addr) (n ic : Nat) (ss : List ByteArray) (oa : Option Addr) (ol oc : Nat) (d : Int) (va : Option Addr) (vl vc : Nat) (k0 : Int) (w : World) (hs : Sl w ia (strs ss)) (hn : ss.length = n)
    (h : 65536 < n ∨ (n ≤ 65536 ∧ 262144 < ol) ∨ (n ≤ 65536 ∧ ol ≤ 262144 ∧ 262144 < vl)) :
    Calls Tryf.prog 4 #[.slice ia n ic, .slice oa ol oc, .int .i64 d, .slice va vl vc, .int .i64 k0] w fun e w' => e = .returned (.bool true) ∧ Below w.heap.size w w' := by
  have hcall := bytes9_any ia n ic ss oa ol oc d va vl vc k0 w hs hn
  clear hs hn
  rcases h with h1 | ⟨h1, h2⟩ | ⟨h1, h2, h3⟩
  all_goals
    go_enter Tryf.func4, Tryf.ntmps4
    go_wp2_with fail
    refine hcall.mono ?_
    rintro e w' ⟨t, rfl, _, rfl⟩
    cases t <;> go_wp2_with fail
    all_goals (go_ret; exact ⟨rfl, Below.refl _ _⟩)

theorem Four.same {w W : World} {g o u b0 b1 b2 b3 : Nat} (h : Four w g o u b0 b1 b2 b3) (hh : W.heap = w.heap) : Four W g o u b0 b1 b2 b3 := by
  have e : ∀ a, W.cell? a = w.cell? a := fun a => by simp [World.cell?, hh]
  exact ⟨h.h0, h.h1, h.h2, h.h3, h.sum, (e _).trans h.c0, (e _).trans h.c1, (e _).trans h.c2, (e _).trans h.c3⟩

theorem drewN_two (w : World) (a b : Nat) : (w.drewN a).drewN b = w.drewN (a + b) := by
  simp only [World.drewN, Nat.add_assoc]

set_option maxHeartbeats 3200000 in
set_option maxRecDepth 100000 in
theorem law4_any (F : Interp) (ia : Option Addr) (n ic : Nat) (ss : List ByteArray) (oa : Option Addr) (ol oc : Nat) (os : List Value) (d : Int) (va : Option Addr) (vl vc : Nat) (k0 : Int) (xs : List Nat) (w : World) (hF : F.told.answers w.tape) (htab : TabOk w)
    (hs : Sl w ia (strs ss)) (hn : ss.length = n) (ho : Sl w oa os) (hol : os.length = ol) (hone : ∀ v ∈ os, v.oneCell' = true) (hv : Sl w va (flts xs)) (hvl : xs.length = vl) (hx : ∀ x ∈ xs, x < 4294967296) (hvc : vl ≤ vc)
    (b1 : n ≤ 65536) (b2 : ol ≤ 262144) (b3 : vl ≤ 262144) :
    Calls Tryf.prog 4 #[.slice ia n ic, .slice oa ol oc, .int .i64 d, .slice va vl vc, .int .i64 k0] w fun e w' => e = .returned (.bool true) ∧ Below w.heap.size w w' := by
  have hcall := bytes9_any ia n ic ss oa ol oc d va vl vc k0 w hs hn
  have q27 : ∀ (w : World) (x : Option Addr) (n c : Nat), (binOp .neq 27 (.slice x n c) (.slice none 0 0)).run Tryf.prog w = .ok (.bool (!x.isNone)) w := fun w x n c => run_neq_slice_nil_any w _ _ x n c 0 0 Tryf.underlying27
  have q28 : ∀ (w : World) (x : Option Addr) (n c : Nat), (binOp .neq 28 (.slice x n c) (.slice none 0 0)).run Tryf.prog w = .ok (.bool (!x.isNone)) w := fun w x n c => run_neq_slice_nil_any w _ _ x n c 0 0 Tryf.underlying28
  have q29 : ∀ (w : World) (x : Option Addr) (n c : Nat), (binOp .neq 29 (.slice x n c) (.slice none 0 0)).run Tryf.prog w = .ok (.bool (!x.isNone)) w := fun w x n c => run_neq_slice_nil_any w _ _ x n c 0 0 Tryf.underlying29
  have HN := Lib.hid hn
  have HOL := Lib.hid hol
  have HVL := Lib.hid hvl
  have HX := Lib.hid hx
  have HO1 := Lib.hid hone
  have hnn : ia = none → n ≤ ic := fun e => by
    have := hs.1 e
    have h2 : ss = [] := by simpa [strs] using this
    rw [← hn, h2]; simp
  clear hn hol hvl hx hone
  go_enter Tryf.func4, Tryf.ntmps4
  go_wp2_with fail
  refine hcall.mono ?_
  rintro e w' ⟨t, rfl, ht, hw⟩
  subst hw
  cases t
  · go_wp2_with fail
    go_ret
    exact ⟨rfl, Below.refl _ _⟩
  have HSZ : Hid (∀ s ∈ ss, s.size ≤ 1048576) := (ht rfl).2
  clear ht hcall
  go_upto_if 54 with fail
  go_cut [0, 11] from 55 to 61 (fun v _ wx => ∃ a c, v = .slice a n c ∧ n ≤ c ∧ Sl wx a (strs ss) ∧ Below w'.heap.size w' wx)
  case first =>
    cases ia with
    | none =>
      go_wp2_with fail
      go_meet
      exact ⟨none, ic, rfl, by first | exact hnn rfl | exact hnn trivial, hs, Below.refl _ _⟩
    | some x =>
      obtain ⟨w1, w2, hm1, hp1, k2, bb⟩ := clone_any 27 9 (.string ⟨#[]⟩) 16 Tryf.underlying27 Tryf.info9 (by omega) (len := n) (c := ic) hs (by rw [strs, List.length_map]; exact HN.out) (strs_one ss) (by omega)
      go_wp2_with fail
      go_meet
      exact ⟨_, _, rfl, Nat.le_refl _, k2, bb⟩
  case rest =>
    obtain ⟨ia1, ic1, rfl, hic, hs1, bb1⟩ := hcut
    have ho1 := ho.below bb1
    have hv1 := hv.below bb1
    clear hs ho hv
    rename World => wa
    go_upto_if 63 with fail
    go_cut [1, 12] from 64 to 70 (fun v _ wx => ∃ a c, v = .slice a ol c ∧ Sl wx ia1 (strs ss) ∧ Sl wx va (flts xs) ∧ Below w'.heap.size w' wx)
    case first =>
      cases oa with
      | none =>
        go_wp2_with fail
        go_meet
        exact ⟨none, oc, rfl, hs1, hv1, bb1⟩
      | some x =>
        obtain ⟨w1, w2, hm1, hp1, k2, bb⟩ := clone_any 28 52 (.int .u32 0) 4 Tryf.underlying28 Tryf.info52 (by omega) (c := oc) ho1 HOL.out HO1.out (by omega)
        go_wp2_with fail
        go_meet
        exact ⟨_, _, rfl, hs1.below bb, hv1.below bb, bb1.trans (bb.mono bb1.size)⟩
    case rest =>
      obtain ⟨oa1, oc1, rfl, hs2, hv2, bb2⟩ := hcut
      clear hs1 ho1 hv1
      rename World => wb
      go_upto_if 72 with fail
      go_cut [3, 13] from 73 to 79 (fun v _ wx => ∃ a c, v = .slice a vl c ∧ vl ≤ c ∧ Sl wx ia1 (strs ss) ∧ Sl wx a (flts xs) ∧ Below w'.heap.size w' wx)
      case first =>
        cases va with
        | none =>
          go_wp2_with fail
          go_meet
          exact ⟨none, vc, rfl, hvc, hs2, hv2, bb2⟩
        | some x =>
          obtain ⟨w1, w2, hm1, hp1, k2, bb⟩ := clone_any 29 35 (.float .f32 0) 4 Tryf.underlying29 Tryf.info35 (by omega) (len := vl) (c := vc) hv2 (by rw [flts, List.length_map]; exact HVL.out) (flts_one xs) (by omega)
          go_wp2_with fail
          go_meet
          exact ⟨_, _, rfl, Nat.le_refl _, hs2.below bb, k2, bb2.trans (bb.mono bb2.size)⟩
      case rest =>
        obtain ⟨va1, vc1, rfl, hvc1, hs3, hv3, bb3⟩ := hcut
        clear hs2 hv2 q27 q28 q29
        rename World => wd
        have hFd : F.told.answers wd.tape := by rw [bb3.tape]; exact hF
        have htd := htab.below bb3
        clear hF htab bb1 bb2 hvc HO1 HOL hnn
        by_cases hbig : 1048576 < 16 * n + 4 * ol + 4 * vl
        · go_wp2_with fail
          go_ret
          exact ⟨rfl, bb3⟩
        go_wp2_with fail
        go_loopw [14, 95, 16] (fun z i _ wr => ∃ k : Nat, k ≤ n ∧ i = .int .i64 k ∧ (∃ y : Int, z = .int .i64 y ∧ 0 ≤ y ∧ y ≤ 1048576) ∧ wr = wd) (fun _ i _ _ => n - (intOf i).toNat)
        case atStart => exact ⟨0, Nat.zero_le _, rfl, ⟨_, rfl, by omega, by omega⟩, rfl⟩
        case round =>
          obtain ⟨k, hk, rfl, ⟨y, rfl, hy0, hy1⟩, rfl⟩ := hrel
          by_cases hlt : k < n
          · have hkk : (strs ss)[k]? = some (.string (ss.getD k ⟨#[]⟩)) := by
              have : k < ss.length := by rw [HN.out]; exact hlt
              simp [strs, List.getD, this]
            obtain ⟨b, off, rfl, hc⟩ := hs3.at k _ hkk
            obtain ⟨s, hss⟩ : ∃ s, s = ss.getD k ⟨#[]⟩ := ⟨_, rfl⟩
            rw [← hss] at hc
            have hsz : s.size ≤ 1048576 := by
              have hk2 : k < ss.length := by rw [HN.out]; exact hlt
              refine HSZ.out s ?_
              rw [hss, List.getD, List.getElem?_eq_getElem hk2]
              exact List.getElem_mem _
            clear hss hkk
            by_cases hsum : 1048576 < y + s.size
            · go_wp2_with fail
              go_ret
              exact ⟨rfl, bb3⟩
            · go_wp2_with fail
              go_roundw
              case rel => exact ⟨k + 1, by omega, by go_num, ⟨_, rfl, by omega, by omega⟩, by first | trivial | rfl⟩
              case measure => simp [intOf]; omega
          · obtain rfl : n = k := by omega
            by_cases hd0 : d < 0
            · go_wp2_with fail
              go_ret
              exact ⟨rfl, bb3⟩
            by_cases hd1 : 65536 < d
            · go_wp2_with fail
              go_ret
              exact ⟨rfl, bb3⟩
            obtain ⟨dim, rfl⟩ := Int.eq_ofNat_of_zero_le (by omega : 0 ≤ d)
            have hdim : dim ≤ 65536 := by omega
            obtain ⟨q, hqd⟩ : ∃ q, q = vl / dim := ⟨_, rfl⟩
            have hq3 : q ≤ vl := by rw [hqd]; exact Nat.div_le_self _ _
            have hw : wrap64 ((vl : Int) / (dim : Int)) = (q : Int) := by
              rw [← Int.natCast_ediv, ← hqd, wrap64]
              omega
            have HQ := Lib.hid hqd
            clear hqd
            by_cases hdv : 0 < dim ∧ q < n
            · obtain ⟨hp, hq⟩ := hdv
              have hp2 : ¬ (dim : Int) = 0 := by omega
              go_wp2_with fail
              go_ret
              exact ⟨rfl, bb3⟩
            have hnd : Hid (n * dim ≤ vl) := by
              show n * dim ≤ vl
              rcases Nat.eq_zero_or_pos dim with e | e
              · rw [e, Nat.mul_zero]; exact Nat.zero_le _
              · have h2 : n ≤ vl / dim := by rw [← HQ.out]; omega
                exact (Nat.le_div_iff_mul_le e).1 h2
            have hstart : 0 < dim ∧ n ≤ q ∨ ¬ 0 < dim := by omega
            go_upto_region 29 with fail
            go_cut [122] from 112 to 122 (fun c wx => c = .bool false ∧ wx = wr)
            case first =>
              rcases hstart with ⟨hp, hq⟩ | hp
              · have hp2 : ¬ (dim : Int) = 0 := by omega
                go_wp2_with fail
                go_meet
                exact ⟨by rw [decide_eq_false (by omega)], rfl⟩
              · have hp2 : ¬ 0 < (dim : Int) := by omega
                go_wp2_with fail
                go_meet
                exact ⟨rfl, rfl⟩
            case rest =>
              obtain ⟨rfl, rfl⟩ := hcut
              rename World => wf
              clear hw HQ hq3 hdv hstart
              by_cases hk0 : k0 < 0
              · go_wp2_with fail
                go_ret
                exact ⟨rfl, bb3⟩
              by_cases hk1 : (n : Int) < k0
              · go_wp2_with fail
                go_ret
                exact ⟨rfl, bb3⟩
              obtain ⟨k, rfl⟩ := Int.eq_ofNat_of_zero_le (by omega : 0 ≤ k0)
              have hkn : k ≤ n := by omega
              obtain ⟨N, hN⟩ : ∃ N, N = n * dim := ⟨_, rfl⟩
              obtain ⟨K, hK⟩ : ∃ K, K = k * dim := ⟨_, rfl⟩
              obtain ⟨R, hR⟩ : ∃ R, R = (n - k) * dim := ⟨_, rfl⟩
              have hNKR : N = K + R := by rw [hN, hK, hR, ← Nat.add_mul]; congr 1; omega
              have hNv : N ≤ vl := by rw [hN]; exact hnd.out
              have hKN : K ≤ N := by omega
              have hRN : R ≤ N := by omega
              have hKR : K + R ≤ vl := by omega
              have HNKR := Lib.hid hNKR
              clear hNKR
              have hNi : (n : Int) * (dim : Int) = (N : Int) := by rw [hN]; push_cast; rfl
              have hKi : (k : Int) * (dim : Int) = (K : Int) := by rw [hK]; push_cast; rfl
              have hwK : IntKind.i64.wrap (K : Int) = K := by rw [IntKind.wrap_i64]; omega
              have hcall1 := zzv_any2 F ia1 n ic1 oa1 ol oc1 dim va1 vl vc1 (xs.take N) wf hFd htd b1 hdim (by rw [← hN]; exact hNv) hvc1 b3 (by show (xs.take N).length = n * dim; rw [List.length_take, HVL.out, ← hN]; omega) (floats_of hv3 HX.out N)
              have HN2 := Lib.hid hN
              have HK := Lib.hid hK
              have HR := Lib.hid hR
              clear hN hK hR hnd
              go_wp2_with fail
              refine hcall1.mono ?_
              rintro e w5 ⟨g5, c5, rfl, y5, l5, b5⟩
              have hF5 : F.told.answers w5.tape := by rw [b5.tape]; exact hFd
              have ht5 := htd.below b5
              have hv5 := hv3.below b5
              have hB5 : Below w'.heap.size w' w5 := bb3.trans (b5.mono bb3.size)
              clear hcall1 htd hFd b5 bb3 hv3
              have h27 := fun W => run_high 27 (by kernel_rfl) (fun W => by kernel_rfl) ia1 n ic1 k (by omega) W
              have h29 := fun W => run_high 29 (by kernel_rfl) (fun W => by kernel_rfl) va1 vl vc1 K (by omega) W
              go_upto_region 35 with fail
              go_cut [20, 21] from 141 to 154 (fun a f wx => ∃ g c, a = .slice (some ⟨g, 0, none⟩) (file k dim (xs.take K)).length c ∧ f = .bool false ∧ Bytes wx ⟨g, 0, none⟩ (file k dim (xs.take K)) ∧ (file k dim (xs.take K)).length ≤ c ∧ Below w5.heap.size w5 wx)
              case first =>
                have hcall2 := zzv_any2 F ia1 k ic1 oa1 ol oc1 dim va1 K vc1 (xs.take K) w5.drew hF5 ht5 (by omega) hdim (by show k * dim ≤ K; rw [HK.out]; exact Nat.le_refl _) (by omega) (by omega) (by show (xs.take K).length = k * dim; rw [List.length_take, HVL.out, ← HK.out]; omega) (floats_of (w := w5.drew) hv5 HX.out K)
                go_region_with (go_at_call 10; refine hcall2.mono ?_; rintro e w6 ⟨g6, c6, rfl, y6, l6, b6⟩)
                all_goals (go_wp2_with fail; go_meet; exact ⟨g6, c6, rfl, rfl, y6, l6, ⟨b6.os, b6.tape, b6.output, b6.size, b6.block⟩⟩)
              case rest =>
                obtain ⟨g6, c6, rfl, rfl, y6, l6, b6⟩ := hcut
                rename World => w6
                have hF6 : F.told.answers w6.tape := by rw [b6.tape]; exact hF5
                have ht6 := ht5.below b6
                have hv6 := hv5.below b6
                have y56 := y5.below b6
                have hB6 : Below w'.heap.size w' w6 := hB5.trans (b6.mono hB5.size)
                clear h27 h29 ht5 hF5 hv5 y5 hB5 b6
                have h27 := fun W => run_low 27 (by kernel_rfl) (fun W => by kernel_rfl) ia1 n ic1 k hkn W
                have h29 := fun W => run_low 29 (by kernel_rfl) (fun W => by kernel_rfl) va1 vl vc1 K (by omega) W
                go_upto_region 36 with fail
                go_cut [22, 23] from 155 to 168 (fun a f wx => ∃ g c, a = .slice (some ⟨g, 0, none⟩) (file (n - k) dim ((xs.drop K).take R)).length c ∧ f = .bool false ∧ Bytes wx ⟨g, 0, none⟩ (file (n - k) dim ((xs.drop K).take R)) ∧ (file (n - k) dim ((xs.drop K).take R)).length ≤ c ∧ Below w6.heap.size w6 wx)
                case first =>
                  have hsl : Sl w6 (lowA va1 vc1 K) (flts (xs.drop K)) := by
                    have := hv6.low vc1 K (by rw [flts, List.length_map, HVL.out]; exact hvc1)
                    rw [flts, ← List.map_drop] at this
                    exact this
                  have hcall3 := zzv_any2 F (lowA ia1 ic1 k) (n - k) (ic1 - k) oa1 ol oc1 dim (lowA va1 vc1 K) (vl - K) (vc1 - K) ((xs.drop K).take R) w6.drew hF6 ht6 (by omega) hdim (by show (n - k) * dim ≤ vl - K; rw [← HR.out]; omega) (by omega) (by omega) (by show ((xs.drop K).take R).length = (n - k) * dim; rw [List.length_take, List.length_drop, HVL.out, ← HR.out]; omega) (floats_of (w := w6.drew) hsl (fun x hx => HX.out x (List.mem_of_mem_drop hx)) R)
                  go_region_with (go_at_call 10; refine hcall3.mono ?_; rintro e w7 ⟨g7, c7, rfl, y7, l7, b7⟩)
                  all_goals (go_wp2_with fail; go_meet; exact ⟨g7, c7, rfl, rfl, y7, l7, ⟨b7.os, b7.tape, b7.output, b7.size, b7.block⟩⟩)
                case rest =>
                  obtain ⟨g7, c7, rfl, rfl, y7, l7, b7⟩ := hcut
                  rename World => w7
                  have hv7 := hv6.below b7
                  have z5 := y56.below b7
                  have z6 := y6.below b7
                  have hB7 : Below w'.heap.size w' w7 := hB6.trans (b7.mono hB6.size)
                  clear h27 h29 ht6 hF6 hv6 y56 y6 hB6 b7
                  obtain ⟨X0, hX0⟩ : ∃ X, X = xs.take N := ⟨_, rfl⟩
                  obtain ⟨X1, hX1⟩ : ∃ X, X = xs.take K := ⟨_, rfl⟩
                  obtain ⟨X2, hX2⟩ : ∃ X, X = (xs.drop K).take R := ⟨_, rfl⟩
                  have x0 : X0.length = N := by rw [hX0, List.length_take, HVL.out]; omega
                  have x1 : X1.length = K := by rw [hX1, List.length_take, HVL.out]; omega
                  have x2 : X2.length = R := by rw [hX2, List.length_take, List.length_drop, HVL.out]; omega
                  have HW : Hid (words X0 = words X1 ++ words X2) := by
                    show words X0 = _
                    rw [hX0, hX1, hX2, HNKR.out, List.take_add, words_append]
                  have HXX : Hid (∀ i, i < N → X0.getD i 0 < 4294967296 ∧ w7.cell? ⟨0, 0, none⟩ = w7.cell? ⟨0, 0, none⟩ ∧ (flts xs)[i]? = some (.float .f32 (X0.getD i 0))) := by
                    intro i hi
                    have e1 : X0[i]? = some (X0.getD i 0) := by rw [List.getElem?_eq_getElem (by omega)]; simp [List.getD, show i < X0.length by omega]
                    have e2 : xs[i]? = some (X0.getD i 0) := by
                      rw [hX0, List.getElem?_take, if_pos hi] at e1
                      rw [← hX0] at e1
                      exact e1
                    exact ⟨HX.out _ (List.mem_of_getElem? e2), rfl, by simp [flts, e2]⟩
                  rw [← hX0] at z5 l5 ⊢
                  rw [← hX1] at z6 l6 ⊢
                  rw [← hX2] at y7 l7 ⊢
                  have X0L := Lib.hid x0
                  have X1L := Lib.hid x1
                  have X2L := Lib.hid x2
                  clear hX0 hX1 hX2 x0 x1 x2 HX HVL HN hs3
                  go_wp2_with fail
                  refine (part_file n dim X0 g5 c5 w7 z5 l5 b1 hdim (by rw [X0L.out]; omega)).mono ?_
                  rintro e w8 ⟨o5, d5, rfl, v5, m5, q5, rfl⟩
                  rw [X0L.out] at m5 ⊢
                  go_wp2_with fail
                  refine (part_file k dim X1 g6 c6 (w7.drewN q5) z6 l6 (by omega) hdim (by rw [X1L.out]; omega)).mono ?_
                  rintro e w9 ⟨o6, d6, rfl, v6, m6, q6, rfl⟩
                  rw [X1L.out] at m6 ⊢
                  go_wp2_with fail
                  refine (part_file (n - k) dim X2 g7 c7 (w7.drewN (q5 + q6)) y7 l7 (by omega) hdim (by rw [X2L.out]; omega)).mono ?_
                  rintro e wz ⟨o7, d7, rfl, v7, m7, q7, hwz⟩
                  rw [X2L.out] at m7 ⊢
                  have v5' : Bytes wz ⟨g5, o5, none⟩ (words X0) := by rw [hwz]; exact v5
                  have v6' : Bytes wz ⟨g6, o6, none⟩ (words X1) := by rw [hwz]; exact v6
                  have hvz : Sl wz va1 (flts xs) := by rw [hwz]; exact hv7
                  have hBz : Below w'.heap.size w' wz := by rw [hwz]; exact below_drewN (below_drewN hB7 _) _
                  clear v5 v6 hv7 hB7 hwz z5 z6 y7 l5 l6 l7
                  have h4 : 4 * (n : Int) * (dim : Int) = 4 * (N : Int) := by rw [Int.mul_assoc, hNi]
                  have hb2 : (4 * (N : Int) == 4 * (K : Int) + 4 * (R : Int)) = true := beq_iff_eq.2 (by have := HNKR.out; omega)
                  go_wp2_with fail
                  go_loopw [30] (fun i wr => ∃ m : Nat, m ≤ 4 * K ∧ i = .int .i64 m ∧ ∃ q, wr = wz.drewN q) (fun i _ => 4 * K - (intOf i).toNat)
                  case atStart => exact ⟨0, Nat.zero_le _, rfl, 0, rfl⟩
                  case round =>
                    obtain ⟨m, hm, rfl, q, rfl⟩ := hrel
                    by_cases hlt : m < 4 * K
                    · obtain ⟨b, hca, hcb⟩ : ∃ b : UInt8, wz.cell? ⟨g5, o5 + m, none⟩ = some (.int .u8 (b.toNat : Int)) ∧ wz.cell? ⟨g6, o6 + m, none⟩ = some (.int .u8 (b.toNat : Int)) := by
                        have hl1 : m < (words X1).length := by rw [words_length, X1L.out]; exact hlt
                        have e1 := List.getElem?_eq_getElem hl1
                        have e0 : (words X0)[m]? = some (words X1)[m] := by rw [HW.out, List.getElem?_append_left hl1]; exact e1
                        have c1 := v5' m _ e0
                        have c2 := v6' m _ e1
                        rw [add_at] at c1 c2
                        exact ⟨_, c1, c2⟩
                      have hlt2 : m < 4 * N := by omega
                      go_wp2_with fail
                      go_quiet (fail)
                      go_wp2_with fail
                      go_roundw
                      case rel => exact ⟨m + 1, by omega, by go_num, _, rfl⟩
                      case measure => simp [intOf]; omega
                    · go_wp2_with fail
                      go_loopw [31] (fun i wr => ∃ m : Nat, m ≤ 4 * R ∧ i = .int .i64 m ∧ ∃ q, wr = wz.drewN q) (fun i _ => 4 * R - (intOf i).toNat)
                      case atStart => exact ⟨0, Nat.zero_le _, rfl, _, rfl⟩
                      case round =>
                        clear hm hlt
                        obtain ⟨m2, hm2, rfl, q2, rfl⟩ := hrel
                        by_cases hlt : m2 < 4 * R
                        · obtain ⟨b, hca, hcb⟩ : ∃ b : UInt8, wz.cell? ⟨g5, o5 + (4 * K + m2), none⟩ = some (.int .u8 (b.toNat : Int)) ∧ wz.cell? ⟨g7, o7 + m2, none⟩ = some (.int .u8 (b.toNat : Int)) := by
                            have hl1 : m2 < (words X2).length := by rw [words_length, X2L.out]; exact hlt
                            have e1 := List.getElem?_eq_getElem hl1
                            have e0 : (words X0)[4 * K + m2]? = some (words X2)[m2] := by rw [HW.out, List.getElem?_append_right (by rw [words_length, X1L.out]; omega), words_length, X1L.out, Nat.add_sub_cancel_left]; exact e1
                            have c1 := v5' _ _ e0
                            have c2 := v7 _ _ e1
                            rw [add_at] at c1 c2
                            exact ⟨_, c1, c2⟩
                          have hlt2 : 4 * K + m2 < 4 * N := by have := HNKR.out; omega
                          go_wp2_with fail
                          go_quiet (fail)
                          go_wp2_with fail
                          go_roundw
                          case rel => exact ⟨m2 + 1, by omega, by go_num, _, rfl⟩
                          case measure => simp [intOf]; omega
                        · go_wp2_with fail
                          go_loopw [32] (fun i wr => ∃ m : Nat, m ≤ N ∧ i = .int .i64 m ∧ ∃ q, wr = wz.drewN q) (fun i _ => N - (intOf i).toNat)
                          case atStart => exact ⟨0, Nat.zero_le _, rfl, _, rfl⟩
                          case round =>
                            clear hm2 hlt
                            obtain ⟨i, hi, rfl, q3, hwr⟩ := hrel
                            by_cases hlt : i < N
                            · obtain ⟨hxl, _, hxe⟩ := HXX.out i hlt
                              obtain ⟨vb, vo, rfl, hcx⟩ := hvz.at i _ hxe
                              obtain ⟨b0, b1', b2', b3', hfour⟩ := four_of v5' (by rw [X0L.out]; exact hlt) hxl
                              obtain ⟨x, hxx⟩ : ∃ x, x = X0.getD i 0 := ⟨_, rfl⟩
                              rw [← hxx] at hcx hfour
                              have hcx2 : wr.cell? ⟨vb, vo + i, none⟩ = some (.float .f32 x) := by rw [hwr]; exact hcx
                              have hwh : wr.heap = wz.heap := by rw [hwr]; rfl
                              have HF : Hid (∀ W : World, W.heap = wr.heap → Four W g5 (o5 + 4 * i) x b0 b1' b2' b3') := fun W hW => hfour.same (hW.trans hwh)
                              have HWR := Lib.hid hwr
                              have hmid := fun W => run_mid g5 o5 (4 * N) d5 i (by omega) W
                              have hiv : i < vl := by omega
                              have hw1 : IntKind.i64.wrap (4 * (i : Int)) = 4 * (i : Int) := by rw [IntKind.wrap_i64]; omega
                              have hw2 : IntKind.i64.wrap (4 * (i : Int) + 4) = 4 * (i : Int) + 4 := by rw [IntKind.wrap_i64]; omega
                              clear hxx hfour hxe hxl hwr hwh hcx
                              go_wp2_with fail
                              go_quiet (first | (go_at_call 12; refine Calls.quiet_of (word_any g5 (o5 + 4 * i) (d5 - 4 * i) b0 b1' b2' b3' x _ ?_); exact HF.out _ rfl))
                              go_wp2_with fail
                              go_roundw
                              case rel => exact ⟨i + 1, by omega, by go_num, q3 + nq, by rw [HWR.out, drewN_two]⟩
                              case measure => simp [intOf]; omega
                            · subst hwr
                              go_wp2_with fail
                              go_ret
                              exact ⟨rfl, below_drewN hBz _⟩

end Go.Proofs.Qxb6616758aFmt
