import Derived.Test.Qxb6616758aFmtFp3
import Derived.Test.Qxb6616758aFmtProg
import Derived.WalkLawsBesides
import Derived.WalkSmall
import Derived.Deep.QuietTactic
import Derived.BigQuiet
import Derived.Stop.Asserts
import Derived.Lib.EndianBits
import Derived.Lib.Endian
import Derived.Lib.Hide
import Derived.WalkKit
import Derived.Below
import Derived.Laws.BitsAllLaws
import Derived.Deep.CutRange
/- zzWordIs. -/
namespace Go.Proofs.Qxb6616758aFmt
open Go.RowKit Go.Stop

/-- Four bytes of u, the lowest first. -/
structure Four (w : World) (g o u : Nat) (b0 b1 b2 b3 : Nat) : Prop where
  h0 : b0 < 256
  h1 : b1 < 256
  h2 : b2 < 256
  h3 : b3 < 256
  sum : u = b0 + b1 * 256 + b2 * 65536 + b3 * 16777216
  c0 : w.cell? ⟨g, o, none⟩ = some (.int .u8 (b0 : Int))
  c1 : w.cell? ⟨g, o + 1, none⟩ = some (.int .u8 (b1 : Int))
  c2 : w.cell? ⟨g, o + 2, none⟩ = some (.int .u8 (b2 : Int))
  c3 : w.cell? ⟨g, o + 3, none⟩ = some (.int .u8 (b3 : Int))

theorem or4 {b0 b1 b2 b3 u : Nat} (h0 : b0 < 256) (h1 : b1 < 256) (h2 : b2 < 256) (h3 : b3 < 256) (hu : u = b0 + b1 * 256 + b2 * 65536 + b3 * 16777216) :
    bits .or .u32 (bits .or .u32 (bits .or .u32 (b0 : Int) ((b1 : Int) * 256)) ((b2 : Int) * 65536)) ((b3 : Int) * 16777216) = (u : Int) := by
  rw [u32_or8 (b0 : Int) ((b1 : Int) * 256) (by omega) (by omega) (by omega) (by omega) (by omega), u32_or16 ((b0 : Int) + (b1 : Int) * 256) ((b2 : Int) * 65536) (by omega) (by omega) (by omega) (by omega) (by omega),
    u32_or24 ((b0 : Int) + (b1 : Int) * 256 + (b2 : Int) * 65536) ((b3 : Int) * 16777216) (by omega) (by omega) (by omega) (by omega) (by omega)]
  omega

/-- The sign, the exponent field and the fraction field. -/
theorem fields (s : Bool) (r u : Nat) (hr : r < 2 ^ 31) (hu : u = Ieee.single.word s r) :
    u < 4294967296 ∧ (u : Int) / 2147483648 = ((s.toNat : Nat) : Int) ∧ bits .and .u32 ((u : Int) / 8388608) 255 = ((r / 8388608 : Nat) : Int) ∧ bits .and .u32 (u : Int) 8388607 = ((r % 8388608 : Nat) : Int) := by
  have hw : u = s.toNat * 2147483648 + r := by
    rw [hu, Ieee.Format.word, sgl_sign]
    cases s <;> simp
  have hs : s.toNat ≤ 1 := by cases s <;> decide
  have hu4 : u < 4294967296 := by omega
  refine ⟨hu4, by omega, ?_, ?_⟩
  · have e : (u : Int) / 8388608 = ((u / 8388608 : Nat) : Int) := by omega
    rw [e]
    have := u32_and_nat (u / 8388608) 255 (by omega) (by omega)
    have e2 : (u / 8388608) &&& 255 = (u / 8388608) % 256 := Nat.and_two_pow_sub_one_eq_mod (u / 8388608) 8
    rw [e2] at this
    rw [show (255 : Int) = ((255 : Nat) : Int) from rfl, this]
    omega
  · have := u32_and_nat u 8388607 hu4 (by omega)
    have e2 : u &&& 8388607 = u % 8388608 := Nat.and_two_pow_sub_one_eq_mod u 23
    rw [e2] at this
    rw [show (8388607 : Int) = ((8388607 : Nat) : Int) from rfl, this]
    omega

set_option maxHeartbeats 1600000 in
set_option maxRecDepth 100000 in
theorem word_fin (g o c : Nat) (b0 b1 b2 b3 u : Nat) (s : Bool) (r : Nat) (w : World) (h : Four w g o u b0 b1 b2 b3) (hr : r < 255 * 2 ^ 23) (hur : u = Ieee.single.word s r) :
    Calls Tryf.prog 12 #[.slice (some ⟨g, o, none⟩) 4 c, .float .f32 u] w fun e w' => e = .returned (.bool true) ∧ ∃ q, w' = w.drewN q := by
  obtain ⟨h0, h1, h2, h3, hu, c0, c1, c2, c3⟩ := h
  have hor := or4 h0 h1 h2 h3 hu
  have f1 : FloatKind.f32.format.order u u = some .eq := by rw [hur]; exact ord_fin s r hr
  have f2 : ∀ W, (binOp .sub 35 (.float .f32 u) (.float .f32 u)).run Tryf.prog W = .ok (.float .f32 0) W := fun W => run_float_arith W .sub 35 .f32 u u 0 (by rw [hur]; exact sub_fin s r hr)
  have f3 : FloatKind.f32.format.order 0 0 = some .eq := ord_zero0
  obtain ⟨hu4, hsg, hex, hfr⟩ := fields s r u (by omega) hur
  have hP := expo_in r hr
  have hM := mant_lt r
  have f4 : ∀ W, (convert 35 53 (.float .f32 u)).run Tryf.prog W = .ok (.float .f64 (Ieee.double.word s (sq (mant r) (expo r)))) W := fun W => run_convert_float_float W 35 53 .f32 .f64 u _ (by kernel_rfl) Tryf.underlying53 (by rw [hur]; exact conv_fin s r hr)
  have f5 : (FloatKind.f32.format.order u 0 == some .eq) = decide (r = 0) := by rw [hur]; exact ord_zero s r hr
  have HUR := Lib.hid hur
  clear hu hur
  obtain ⟨e, he⟩ : ∃ e, e = r / 8388608 := ⟨_, rfl⟩
  obtain ⟨m, hm⟩ : ∃ m, m = r % 8388608 := ⟨_, rfl⟩
  rw [← he] at hex
  rw [← hm] at hfr
  have he2 : e ≤ 254 := by omega
  have hm2 : m < 8388608 := by omega
  obtain ⟨sg, hsg2⟩ : ∃ sg, sg = s.toNat := ⟨_, rfl⟩
  rw [← hsg2] at hsg
  have HSG := Lib.hid hsg2
  clear hsg2
  have hoi := of_int m (by omega)
  have HM : Hid (mant r = if e = 0 then m else m + 2 ^ 23) := by
    show mant r = _
    rw [mant, he, hm]
  have HP : Hid (expo r = if e = 0 then -149 else (e : Int) - 150) := by
    show expo r = _
    rw [expo, he]
  clear he hm
  obtain ⟨M, hMM⟩ : ∃ M, M = mant r := ⟨_, rfl⟩
  obtain ⟨P, hPP⟩ : ∃ P, P = expo r := ⟨_, rfl⟩
  rw [← hMM] at hM HM f4
  rw [← hPP] at hP HP f4
  clear hMM hPP
  have he255 : ((e : Int) == 255) = false := beq_eq_false_iff_ne.2 (by omega)
  go_enter Tryf.func12, Tryf.ntmps12
  go_wp2_with fail
  go_quiet (fail)
  clear hor c0 c1 c2 c3
  go_upto_if 77 with fail
  go_cut [10, 11] from 77 to 81 (fun v p wx => v = .float .f64 (sq M 0) ∧ p = .int .i64 P ∧ wx = w.drewN nq)
  case first =>
    by_cases he0 : e = 0
    · have hM0 : Hid (M = m) := by
        show M = m
        rw [HM.out, if_pos he0]
      have hP0 : Hid (P = -149) := by
        show P = -149
        rw [HP.out, if_pos he0]
      have heb : ¬ 0 < (e : Int) := by omega
      clear he0
      go_wp2_with fail
      go_meet
      exact ⟨by rw [hM0.out], by rw [hP0.out], rfl⟩
    · have hM0 : Hid (M = m + 2 ^ 23) := by
        show M = _
        rw [HM.out, if_neg he0]
      have hP0 : Hid (P = (e : Int) - 150) := by
        show P = _
        rw [HP.out, if_neg he0]
      have heb : 0 < (e : Int) := by omega
      have hadd : ∀ W, (binOp .add 53 (.float .f64 (sq m 0)) (.float .f64 4710765210229538816)).run Tryf.prog W = .ok (.float .f64 (sq M 0)) W := fun W => run_float_arith W .add 53 .f64 _ _ _ (by rw [hM0.out]; exact sq_add m hm2)
      clear he0
      go_wp2_with fail
      go_meet
      exact ⟨rfl, by rw [hP0.out], rfl⟩
  case rest =>
    obtain ⟨rfl, rfl, rfl⟩ := hcut
    clear f1 f2 f3 hex hfr hoi HM HP hm2 he2 hsg hu4
    go_wp2_with fail
    go_loopw [10, 11] (fun v z wr => ∃ q : Int, v = .float .f64 (sq M (P - q)) ∧ z = .int .i64 q ∧ (q = P ∨ 0 ≤ q) ∧ q ≤ 104 ∧ -149 ≤ q ∧ (0 < q → q ≤ P) ∧ (q ≤ P) ∧ wr = w.drewN nq) (fun _ z _ => (intOf z).toNat)
    case atStart => exact ⟨P, by rw [Int.sub_self], rfl, .inl rfl, by omega, by omega, by omega, by omega, rfl⟩
    case round =>
      obtain ⟨q, rfl, rfl, q1, q2, q3, q4, q5, rfl⟩ := hrel
      by_cases hq : 0 < q
      · have hmul : ∀ W, (binOp .mul 53 (.float .f64 (sq M (P - q))) (.float .f64 4611686018427387904)).run Tryf.prog W = .ok (.float .f64 (sq M (P - q + 1))) W := fun W => run_float_arith W .mul 53 .f64 _ _ _ (sq_mul M hM (P - q) (by omega) (by omega))
        go_wp2_with fail
        go_roundw
        case rel => exact ⟨q - 1, by rw [show P - (q - 1) = P - q + 1 by omega], rfl, by omega, by omega, by omega, by omega, by omega, by first | trivial | rfl⟩
        case measure => simp [intOf]; omega
      · go_wp2_with fail
        have hfin : Hid (∃ a i, Ieee.double.read (Ieee.double.word s (sq M P)) = .number s a i) := read_sq s M hM P hP.1 (by omega)
        have hlt63 : Hid (sq M P < 2 ^ 63) := sq_lt M hM P hP.1 (by omega)
        go_loopw [10, 11] (fun v z wr => ∃ q : Int, v = .float .f64 (sq M (P - q)) ∧ z = .int .i64 q ∧ q ≤ 0 ∧ -149 ≤ q ∧ (q = 0 ∨ P ≤ q) ∧ wr = w.drewN nq) (fun _ z _ => (-(intOf z)).toNat)
        case atStart => exact ⟨q, rfl, rfl, by omega, by omega, by omega, rfl⟩
        case round =>
          clear q1 q2 q3 q4 q5 hq
          obtain ⟨q, rfl, rfl, q1, q2, q3, rfl⟩ := hrel
          by_cases hq : q < 0
          · have hdiv : ∀ W, (binOp .quo 53 (.float .f64 (sq M (P - q))) (.float .f64 4611686018427387904)).run Tryf.prog W = .ok (.float .f64 (sq M (P - q - 1))) W := fun W => run_float_arith W .quo 53 .f64 _ _ _ (sq_div M hM (P - q) (by omega) (by omega))
            go_wp2_with fail
            go_roundw
            case rel => exact ⟨q + 1, by rw [show P - (q + 1) = P - q - 1 by omega], rfl, by omega, by omega, by omega, by first | trivial | rfl⟩
            case measure => simp [intOf]; omega
          · obtain rfl : q = 0 := by omega
            obtain ⟨y, hy⟩ : ∃ y, y = sq M P := ⟨_, rfl⟩
            rw [Int.sub_zero, ← hy]
            rw [← hy] at hlt63 hfin f4
            clear hy q1 q2 q3 hq
            obtain ⟨Y, hY⟩ : ∃ Y, Y = Ieee.double.word s y := ⟨_, rfl⟩
            rw [← hY] at f4
            have f6 : FloatKind.f64.format.order Y Y = some .eq := by
              obtain ⟨a, i, hai⟩ := hfin.out
              rw [hY]
              exact order_self hai
            have HY := Lib.hid hY
            clear hY hfin
            cases s
            · have hsb : ((sg : Int) == 1) = false := by rw [HSG.out]; rfl
              have hYy : Hid (Y = y) := HY.out
              have f4' : ∀ W, (convert 35 53 (.float .f32 u)).run Tryf.prog W = .ok (.float .f64 y) W := fun W => by rw [f4 W, hYy.out]
              have f6' : FloatKind.f64.format.order y y = some .eq := by rw [← hYy.out]; exact f6
              clear f4 f6
              by_cases hr0 : r = 0
              · obtain ⟨z, hz1, hz2⟩ := one_div false
                have hu0 : u = Ieee.single.word false 0 := by rw [HUR.out, hr0]
                have f7 : ∀ W, (binOp .quo 35 (.float .f32 1065353216) (.float .f32 u)).run Tryf.prog W = .ok (.float .f32 z) W := fun W => run_float_arith W .quo 35 .f32 _ _ _ (by rw [hu0]; exact hz1)
                have f8 : (FloatKind.f32.format.order z 0 == some .lt) = false := hz2
                have f5' : (FloatKind.f32.format.order u 0 == some .eq) = true := by rw [f5, decide_eq_true hr0]
                clear f5 hu0 hz1 hz2 hr0
                go_wp2_with fail
                go_ret
                exact ⟨rfl, _, rfl⟩
              · have f5' : (FloatKind.f32.format.order u 0 == some .eq) = false := by rw [f5, decide_eq_false hr0]
                clear f5 hr0
                go_wp2_with fail
                go_ret
                exact ⟨rfl, _, rfl⟩
            · have hsb : ((sg : Int) == 1) = true := by rw [HSG.out]; rfl
              have hneg : ∀ W, (Op.unary .neg (.float .f64 y)).run Tryf.prog W = .ok (.float .f64 Y) W := fun W => by
                rw [HY.out, ← neg_word y hlt63.out]
                rfl
              by_cases hr0 : r = 0
              · obtain ⟨z, hz1, hz2⟩ := one_div true
                have hu0 : u = Ieee.single.word true 0 := by rw [HUR.out, hr0]
                have f7 : ∀ W, (binOp .quo 35 (.float .f32 1065353216) (.float .f32 u)).run Tryf.prog W = .ok (.float .f32 z) W := fun W => run_float_arith W .quo 35 .f32 _ _ _ (by rw [hu0]; exact hz1)
                have f8 : (FloatKind.f32.format.order z 0 == some .lt) = true := hz2
                have f5' : (FloatKind.f32.format.order u 0 == some .eq) = true := by rw [f5, decide_eq_true hr0]
                clear f5 hu0 hz1 hz2 hr0
                go_wp2_with fail
                go_ret
                exact ⟨rfl, _, rfl⟩
              · have f5' : (FloatKind.f32.format.order u 0 == some .eq) = false := by rw [f5, decide_eq_false hr0]
                clear f5 hr0
                go_wp2_with fail
                go_ret
                exact ⟨rfl, _, rfl⟩

end Go.Proofs.Qxb6616758aFmt
