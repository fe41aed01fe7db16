import Derived.Test.Qxb6616758aFmtCut0
/- zzDataPart. -/
namespace Go.Proofs.Qxb6616758aFmt
open Go.RowKit Go.Stop

theorem or_i64 (a b : Nat) (ha : a < 256) (hb : b < 256) : bits .or .i64 (a : Int) ((b : Int) * 256) = ((a + b * 256 : Nat) : Int) := by
  rw [bits_join_low .i64 62 (by decide) (fun n h0 h1 => by rw [IntKind.wrap_i64]; omega) 8 (a : Int) ((b : Int) * 256) (by omega) (by omega) (by omega) (by omega) (by omega) (by omega)]
  omega

set_option maxHeartbeats 1600000 in
set_option maxRecDepth 100000 in
theorem part_walk (g n c h b8 b9 : Nat) (L : List UInt8) (w : World) (hb : Bytes w ⟨g, 0, none⟩ L) (hn : L.length = n) (hn9 : n ≤ 1000000000) (hat : At L 0 magic) (h8 : b8 < 256) (h9 : b9 < 256)
    (c8 : w.cell? ⟨g, 8, none⟩ = some (.int .u8 (b8 : Int))) (c9 : w.cell? ⟨g, 9, none⟩ = some (.int .u8 (b9 : Int))) (hh : h = 10 + (b8 + b9 * 256)) (h64 : h % 64 = 0) (hhn : h ≤ n) (cl : w.cell? ⟨g, h - 1, none⟩ = some (.int .u8 10)) :
    Calls Tryf.prog 11 #[.slice (some ⟨g, 0, none⟩) n c] w fun e w' => e = .returned (.tuple #[.slice (lowA (some ⟨g, 0, none⟩) c h) (n - h) (c - h), .bool true]) ∧ ∃ q, w' = w.drewN q := by
  have hor := or_i64 b8 b9 h8 h9
  obtain ⟨m, hm⟩ : ∃ m, m = b8 + b9 * 256 := ⟨_, rfl⟩
  rw [← hm] at hor hh
  have hhi : 10 + (m : Int) = (h : Int) := by omega
  have hm1 : (h : Int) % 64 = 0 := by omega
  have hm2 : (h : Int).tmod 64 = 0 := by rw [Int.tmod_eq_emod_of_nonneg (by omega)]; exact hm1
  have hsl := fun W => run_low 24 (by kernel_rfl) (fun W => by kernel_rfl) (some ⟨g, 0, none⟩) n c h hhn W
  have hh10 : 10 ≤ h := by omega
  have hh2 : h ≤ 65545 := by omega
  obtain ⟨A, hA⟩ : ∃ A, A = lowA (some ⟨g, 0, none⟩) c h := ⟨_, rfl⟩
  rw [← hA] at hsl ⊢
  have hm0 : m ≤ 65535 := by omega
  have hcast : ((h - 1 : Nat) : Int) = (h : Int) - 1 := by omega
  have HCL := Lib.hid cl
  have HH := Lib.hid hh
  clear hm hA hh cl hcast
  go_enter Tryf.func11, Tryf.ntmps11
  go_wp2_with fail
  refine (has_any g n c L 0 0 ⟨#[147, 78, 85, 77, 80, 89, 1, 0]⟩ _ hb hn rfl hat hn9).mono ?_
  rintro e w1 ⟨rfl, q, hw1⟩
  subst hw1
  go_wp2_with fail
  go_quiet (fail)
  have cl := HCL.out
  go_wp2_with fail
  go_ret2
  exact ⟨rfl, _, rfl⟩

theorem hdrOf_at8 (x : List UInt8) (D : List UInt8) : (hdrOf x ++ D)[8]? = some ((body x).length % 65536 % 256).toUInt8 ∧ (hdrOf x ++ D)[9]? = some ((body x).length % 65536 / 256 % 256).toUInt8 := by
  unfold hdrOf magic
  simp [Lib.leBytes]

theorem hdrOf_last (x : List UInt8) (D : List UInt8) : (hdrOf x ++ D)[(hdrOf x).length - 1]? = some 10 := by
  obtain ⟨p, hp⟩ : ∃ p, hdrOf x = p ++ [10] := ⟨magic ++ (Lib.leBytes 2 ((body x).length % 65536) ++ (x ++ List.replicate (padLen x.length) 32)), by
    unfold hdrOf body
    simp only [List.append_assoc]⟩
  rw [hp, List.length_append, List.length_singleton, Nat.add_sub_cancel, List.getElem?_append_left (by simp), List.getElem?_append_right (Nat.le_refl _), Nat.sub_self]
  rfl

theorem part_file (n dim : Nat) (xs : List Nat) (g c : Nat) (w : World) (hb : Bytes w ⟨g, 0, none⟩ (file n dim xs)) (hc : (file n dim xs).length ≤ c) (hn : n ≤ 65536) (hd : dim ≤ 65536) (hx : xs.length ≤ 262144) :
    Calls Tryf.prog 11 #[.slice (some ⟨g, 0, none⟩) (file n dim xs).length c] w fun e w' => ∃ off c', e = .returned (.tuple #[.slice (some ⟨g, off, none⟩) (4 * xs.length) c', .bool true]) ∧ Bytes w' ⟨g, off, none⟩ (words xs) ∧ 4 * xs.length ≤ c' ∧ ∃ q, w' = w.drewN q := by
  obtain ⟨x, hxd⟩ : ∃ x, x = dict [60, 102, 52] (tup [(n : Int), (dim : Int)]) := ⟨_, rfl⟩
  have hf : file n dim xs = hdrOf x ++ words xs := by rw [hxd]; rfl
  have hB : (body x).length ≤ 65000 := by rw [hxd]; exact tup2_small n dim hn hd
  have hl2' := hl2 n dim hn hd
  have hH : hdr [60, 102, 52] [(n : Int), (dim : Int)] = hdrOf x := by rw [hxd]; rfl
  rw [hH] at hl2'
  have hHB : (hdrOf x).length = 10 + (body x).length := by rw [hdrOf_length, ← body_length]; omega
  have hlen : (file n dim xs).length = (hdrOf x).length + 4 * xs.length := by rw [hf, List.length_append, words_length]
  obtain ⟨e8, e9⟩ := hdrOf_at8 x (words xs)
  have e10 := hdrOf_last x (words xs)
  rw [← hf] at e8 e9 e10
  have c8 := hb 8 _ e8
  have c9 := hb 9 _ e9
  have cl := hb _ _ e10
  rw [add_at, Nat.zero_add] at c8 c9 cl
  have t8 : ((body x).length % 65536 % 256).toUInt8.toNat = (body x).length % 256 := by
    rw [Nat.toUInt8_eq, UInt8.toNat_ofNat']
    omega
  have t9 : ((body x).length % 65536 / 256 % 256).toUInt8.toNat = (body x).length / 256 := by
    rw [Nat.toUInt8_eq, UInt8.toNat_ofNat']
    omega
  rw [t8] at c8
  rw [t9] at c9
  have hat : At (file n dim xs) 0 magic := ⟨[], Lib.leBytes 2 ((body x).length % 65536) ++ body x ++ words xs, by rw [hf]; unfold hdrOf; simp only [List.nil_append, List.append_assoc], rfl⟩
  refine (part_walk g (file n dim xs).length c (hdrOf x).length ((body x).length % 256) ((body x).length / 256) (file n dim xs) w hb rfl (by omega) hat (by omega) (by omega) c8 c9 (by omega) hl2'.2.2 (by omega) (by simpa using cl)).mono ?_
  rintro e w' ⟨rfl, q, rfl⟩
  have hsub : (file n dim xs).length - (hdrOf x).length = 4 * xs.length := by omega
  rw [hsub]
  by_cases hch : c = (hdrOf x).length
  · have hx0 : xs = [] := List.eq_nil_of_length_eq_zero (by omega)
    subst hx0
    refine ⟨0, c - (hdrOf x).length, by rw [lowA, if_pos hch], ?_, by simp, q, rfl⟩
    intro j b hj
    simp [words] at hj
  · refine ⟨(hdrOf x).length, c - (hdrOf x).length, ?_, ?_, by omega, q, rfl⟩
    · rw [lowA, if_neg hch, Option.map_some, add_at, Nat.zero_add]
    · intro j b hj
      have hj2 : (file n dim xs)[(hdrOf x).length + j]? = some b := by
        rw [hf, List.getElem?_append_right (by omega), Nat.add_sub_cancel_left]
        exact hj
      have := hb _ _ hj2
      rw [add_at, Nat.zero_add] at this
      rw [add_at]
      exact this

end Go.Proofs.Qxb6616758aFmt
