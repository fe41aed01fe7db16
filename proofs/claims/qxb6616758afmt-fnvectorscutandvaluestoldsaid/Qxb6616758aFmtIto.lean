import Derived.Test.Qxb6616758aFmtZv
import Derived.Laws.IdiomStrings
/- zzItoa. -/
namespace Go.Proofs.Qxb6616758aFmt
open Go.RowKit Go.Stop

/-- The digits still to come. -/
def dig (m : Nat) : List UInt8 := if m = 0 then [] else Lib.decDigits m

theorem dig_step (m : Nat) (h : m ≠ 0) : dig m = dig (m / 10) ++ [UInt8.ofNat (48 + m % 10)] := by
  unfold dig
  rw [if_neg h, Lib.decDigits]
  by_cases h10 : m < 10
  · rw [dif_pos h10, if_pos (by omega), List.nil_append, Nat.mod_eq_of_lt h10]
  · rw [dif_neg h10, if_neg (by omega)]

/-- The [24]byte, filled from place i on with ds. -/
def Digs (w : World) (g i : Nat) (ds : List UInt8) : Prop := ∃ arr : Array Value, w.heap[g]? = some (.cells arr 54 (0, 0)) ∧ arr.size = 24 ∧ arr.toList.drop i = Lib.byteCells ds

theorem Digs.put {w : World} {g i : Nat} {ds : List UInt8} (h : Digs w g (i + 1) ds) (hi : i < 24) (c : UInt8) : Digs (w.setCell ⟨g, i, none⟩ (.int .u8 (c.toNat : Int))) g i (c :: ds) := by
  obtain ⟨arr, hg, hs, hd⟩ := h
  refine ⟨arr.setIfInBounds i (.int .u8 (c.toNat : Int)), heap_setCell_same _ g i _ 54 _ hg, by simp [hs], ?_⟩
  rw [Array.toList_setIfInBounds, List.drop_set, if_neg (by omega), Nat.sub_self]
  have hl : i < arr.toList.length := by rw [Array.length_toList]; omega
  rw [List.drop_eq_getElem_cons hl, hd]
  rfl

theorem cut54 (g k : Nat) (hk : k < 24) (W : World) : (Instr.sliceAt 54 (.pointer (some ⟨g, 0, none⟩)) (some (.int .i64 (k : Int))) none none).run Tryf.prog W = .ok (.slice (some ⟨g, k, none⟩) (24 - k) (24 - k)) W := by
  have ht : Tryf.prog.underlying 54 = some (.array (Tryf.prog.arrayLen 54) (Tryf.prog.elem 54)) := by kernel_rfl
  have ha : Tryf.prog.arrayLen 54 = 24 := by kernel_rfl
  have hs : (sizeOf (Tryf.prog.elem 54)).run Tryf.prog W = .ok 1 W := by kernel_rfl
  rw [run_sliceAt_array_l W 54 ⟨g, 0, none⟩ ht .i64 (k : Int) (by omega) (by rw [ha]; omega), hs, ha]
  have hne : ¬ (24 = k) := by omega
  simp only [Result.andThen, slicedAt, Int.toNat_natCast, if_neg hne, Nat.mul_one, add_at, Nat.zero_add]

set_option maxHeartbeats 800000 in
set_option maxRecDepth 100000 in
theorem zzitoa_any (n : Nat) (w : World) (hn : n ≤ 65536) :
    Calls Tryf.prog 14 #[.int .i64 n] w fun e w' => e = .returned (.string ⟨(Lib.itoa n).toArray⟩) ∧ Below w.heap.size w w' := by
  by_cases h0 : n = 0
  · subst h0
    go_enter Tryf.func14, Tryf.ntmps14
    go_wp2_with fail
    go_ret
    have hi0 : Lib.itoa ((0 : Nat) : Int) = [48] := by simp [Lib.itoa, Lib.decDigits]
    rw [hi0]
    exact ⟨rfl, Below.refl _ _⟩
  · have hnz : ((n : Int) == 0) = false := beq_eq_false_iff_ne.2 (by omega)
    have hnn : ¬ (n : Int) < 0 := by omega
    go_enter Tryf.func14, Tryf.ntmps14
    go_wp2_with fail
    go_loopw [0, 4, 6, 7] (fun z i _ _ wr => ∃ m t : Nat, m < 10 ^ t ∧ t ≤ 5 ∧ z = .int .i64 (-(m : Int)) ∧ i = .int .i64 ((19 + t : Nat) : Int) ∧ Below w.heap.size w wr ∧ ∃ ds, Digs wr w.heap.size (19 + t) ds ∧ dig m ++ ds = dig n) (fun _ i _ _ _ => (intOf i).toNat)
    case atStart =>
      exact ⟨n, 5, by omega, by omega, rfl, rfl, (Below.refl _ _).alloc (Nat.le_refl _) _, [], ⟨_, heap_alloc_new w _, rfl, rfl⟩, by simp⟩
    case round =>
      obtain ⟨m, t, hm, ht, rfl, rfl, hbr, ds, hD, hds⟩ := hrel
      by_cases hm0 : m = 0
      · subst hm0
        obtain ⟨arr, hg, hs, hd⟩ := hD
        have hl : ds.length = 24 - (19 + t) := by
          have := congrArg List.length hd
          rw [List.length_drop, Array.length_toList, hs, Lib.byteCells_length] at this
          omega
        have hdn : ds = Lib.itoa n := by
          have h1 : dig 0 = [] := rfl
          rw [h1, List.nil_append] at hds
          rw [hds, dig, if_neg h0, Lib.itoa, if_neg (by omega)]
          rfl
        have hcv := run_convert_bytes_back (P := Tryf.prog) wr 24 9 5 ⟨w.heap.size, 19 + t, none⟩ (24 - (19 + t)) ds Tryf.underlying24 Tryf.underlying5 Tryf.underlying9 (fun j hj => by
          rw [add_at, cell_of_row _ _ _ _ _ _ hg]
          have := congrArg (fun l => l[j]?) hd
          simp only [List.getElem?_drop] at this
          rw [← Array.getElem?_toList, this]
          simp [Lib.byteCells, hj])
        rw [hl, hdn] at hcv
        have hne : ¬ (24 = 19 + t) := by
          intro e
          have : ds.length = 0 := by omega
          have h2 : ds = dig n := by rw [← hds]; rfl
          rw [h2, dig_step n h0, List.length_append, List.length_singleton] at this
          omega
        have hsl := cut54 w.heap.size (19 + t) (by omega) wr
        have hcc : ((19 + t : Nat) : Int) = 19 + (t : Int) := by omega
        rw [hcc] at hsl
        clear hcc
        obtain ⟨sz, hsz⟩ : ∃ sz : ByteArray, ⟨(Lib.itoa (n : Int)).toArray⟩ = sz := ⟨_, rfl⟩
        rw [hsz] at hcv
        have HS := Lib.hid hsz
        clear hsz
        clear hg hs hd hl hdn hds hm
        go_wp2_with fail
        go_ret
        exact ⟨by rw [HS.out]; rfl, hbr⟩
      · obtain ⟨t', rfl⟩ : ∃ t', t = t' + 1 := ⟨t - 1, by
          rcases Nat.eq_zero_or_pos t with e | e
          · subst e; simp at hm; omega
          · omega⟩
        have hq : (-(m : Int)).tdiv 10 = -((m / 10 : Nat) : Int) := by rw [Int.neg_tdiv]; simp [Int.tdiv]
        have hm5 : m ≤ 99999 := by
          have : 10 ^ (t' + 1) ≤ 10 ^ 5 := Nat.pow_le_pow_right (by omega) ht
          omega
        have hmz : (-(m : Int) == 0) = false := beq_eq_false_iff_ne.2 (by omega)
        obtain ⟨arr, hg, hs, hd⟩ := id hD
        have hcx : ∃ y, wr.cell? ⟨w.heap.size, 19 + t', none⟩ = some y := by
          rw [cell_of_row _ _ _ _ _ _ hg, Array.getElem?_eq_getElem (by omega)]
          exact ⟨_, rfl⟩
        obtain ⟨y, hcy⟩ := hcx
        have hfz : wr.frozen? ⟨w.heap.size, 19 + t', none⟩ = false := frozen_of_row wr _ _ _ _ hg
        clear hd hs hg hq
        have ht5 : t' ≤ 4 := by omega
        have H1 : Hid (m < 10 ^ (t' + 1)) := hm
        have H2 : Hid (dig m ++ ds = dig n) := hds
        have H3 : Hid (Digs wr w.heap.size (19 + (t' + 1)) ds) := hD
        clear hm hds hD ht
        go_wp2_with fail
        go_roundw
        case rel =>
          refine ⟨m / 10, t', ?_, by omega, by simp, by go_num, hbr.setCell (Nat.le_refl _) _, UInt8.ofNat (48 + m % 10) :: ds, ?_, ?_⟩
          · have := H1.out
            rw [Nat.pow_succ] at this
            omega
          · have hv : (48 - (-(m : Int) - -((m : Int) / 10) * 10)) = ((UInt8.ofNat (48 + m % 10)).toNat : Int) := by
              rw [UInt8.toNat_ofNat']
              omega
            rw [hv]
            exact Digs.put (i := 19 + t') H3.out (by omega) _
          · rw [← H2.out, dig_step m hm0, List.append_assoc]
            rfl
        case measure => simp [intOf]; omega

end Go.Proofs.Qxb6616758aFmt
