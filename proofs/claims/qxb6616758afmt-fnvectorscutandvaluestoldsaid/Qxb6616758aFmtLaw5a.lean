import Derived.Test.Qxb6616758aFmtIto
import Derived.Test.Qxb6616758aFmtLaw1
namespace Go.Proofs.Qxb6616758aFmt
open Go.RowKit Go.Stop

/-- A slice whose elements are vs. -/
def Sl (w : World) (a : Option Addr) (vs : List Value) : Prop := (a = none → vs = []) ∧ ∀ x, a = some x → ∀ j v, vs[j]? = some v → w.cell? (x.add j) = some v

theorem Sl.below {w w' : World} {a : Option Addr} {vs : List Value} (h : Sl w a vs) (hb : Below w.heap.size w w') : Sl w' a vs := ⟨h.1, fun x hx j v hv => cell_later hb (h.2 x hx j v hv)⟩

theorem Sl.at {w : World} {a : Option Addr} {vs : List Value} (h : Sl w a vs) (k : Nat) (v : Value) (hk : vs[k]? = some v) :
    ∃ b off, a = some ⟨b, off, none⟩ ∧ w.cell? ⟨b, off + k, none⟩ = some v := by
  obtain ⟨hn, hc⟩ := h
  cases a with
  | none => rw [hn rfl] at hk; simp at hk
  | some x =>
    obtain ⟨b, off, sp⟩ := x
    cases sp with
    | none =>
      have h0 := hc _ rfl k _ hk
      rw [add_at] at h0
      exact ⟨b, off, rfl, h0⟩
    | some s =>
      have hl : 0 < vs.length := by have := (List.getElem?_eq_some_iff.1 hk).1; omega
      have h0 := hc _ rfl 0 _ (List.getElem?_eq_getElem hl)
      exfalso
      simp only [World.cell?, Addr.add] at h0
      split at h0 <;> simp at h0

/-- 'zzc := make([]T, len(x)); copy(zzc, x)', both runs, at whatever element of one cell. -/
theorem clone_any (T e : TypeId) (z : Value) (bytes : Nat) (hT : Tryf.prog.underlying T = some (.slice e)) (hinf : (Tryf.prog.info? e).map (fun i => (i.zero, i.size, i.bytes)) = some (some z, 1, bytes)) (hby : bytes ≤ 16)
    {w : World} {len c : Nat} {k : Addr} {vs : List Value} (h : Sl w (some k) vs) (hvs : vs.length = len) (hone : ∀ v ∈ vs, v.oneCell' = true) (hl : len ≤ 262144) :
    ∃ w1 w2, (Instr.makeSlice T (.int .i64 (len : Int)) (.int .i64 (len : Int))).run Tryf.prog w = .ok (.slice (some ⟨w.heap.size, 0, none⟩) len len) w1 ∧
      (∀ ty, (Builtin.copy_ #[T, T] ty #[.slice (some ⟨w.heap.size, 0, none⟩) len len, .slice (some k) len c]).run Tryf.prog w1 = .ok (.int .i64 (len : Int)) w2) ∧ Sl w2 (some ⟨w.heap.size, 0, none⟩) vs ∧ Below w.heap.size w w2 := by
  have hsize : (Tryf.prog.info? e).map (·.size) = some 1 := by
    obtain ⟨i0, hi, -, hz1, -⟩ := info_parts hinf
    rw [hi]; simp [hz1]
  obtain ⟨i0, hi, hz0, hz1, hz2⟩ := info_parts hinf
  have hmul : bytes * len ≤ 16 * 262144 := Nat.mul_le_mul hby hl
  obtain ⟨w1, hrun, hown, hgrow⟩ := run_make_full (P := Tryf.prog) w w.heap.size T e i0 z 1 hT hi hz0 hz1 .i64 .i64 len (by rw [hz2]; omega) (by unfold maxLen; omega) (Nat.le_refl _)
  have hb1 : Below w.heap.size w w1 := (Below.refl _ _).grown hgrow (Nat.le_refl _) (fun k hk => by cases hk)
  obtain ⟨cur, hcl, hcg⟩ := row_of_owns hown
  have h1 := h.below hb1
  by_cases h0 : len = 0
  · subst h0
    obtain rfl : vs = [] := List.eq_nil_of_length_eq_zero hvs
    exact ⟨w1, w1, hrun, fun ty => run_copy_none (P := Tryf.prog) w1 T T ty e _ _ 0 0 0 c hT hsize rfl, ⟨by simp, fun x _ j v hv => by simp at hv⟩, hb1⟩
  · have hcs : vs.length = Nat.min len len := by simp [hvs]
    have hsrc : ∀ j v, vs[j]? = some v → w1.cell? (k.add j) = some v := fun j u hu => h1.2 k rfl j u hu
    refine ⟨w1, w1.setRow w.heap.size vs.toArray, hrun, fun ty => ?_, ⟨by simp, fun x hx j v hv => ?_⟩, below_setRow hb1 (Nat.le_refl _) _⟩
    · have e1 := run_copy_row (P := Tryf.prog) w1 T T ty e w.heap.size 0 len len k len c cur.toArray e vs hT hsize hcg hcs hsrc (by simp [hcl, hvs]) hone
      have e2 := splice_all (cur := cur) (cs := vs) (by simp [hvs, hcl])
      unfold splice at e2
      rw [e1, List.append_assoc]
      show Result.ok (goInt _) (w1.setRow _ (cur.take 0 ++ (_ ++ cur.drop _)).toArray) = _
      rw [e2]
      simp [goInt, hvs]
    · obtain rfl : (⟨w.heap.size, 0, none⟩ : Addr) = x := by simpa using hx
      rw [add_at, Nat.zero_add, cell_of_row _ _ _ _ _ _ (setRow_heap w1 w.heap.size _ _ e _ hcg)]
      simpa using hv

theorem Tryf.info52 : (Tryf.prog.info? 52).map (fun i => (i.zero, i.size, i.bytes)) = some (some (.int .u32 0), 1, 4) := by kernel_rfl
theorem Tryf.info35 : (Tryf.prog.info? 35).map (fun i => (i.zero, i.size, i.bytes)) = some (some (.float .f32 0), 1, 4) := by kernel_rfl

/-- A slice of strings. -/
def strs (ss : List ByteArray) : List Value := ss.map Value.string

theorem strs_one (ss : List ByteArray) : ∀ v ∈ strs ss, v.oneCell' = true := by
  intro v hv
  obtain ⟨s, _, rfl⟩ := List.mem_map.1 hv
  rfl

set_option maxHeartbeats 1600000 in
set_option maxRecDepth 100000 in
theorem bytes13_any (ia : Option Addr) (n ic : Nat) (ss : List ByteArray) (oa : Option Addr) (ol oc : Nat) (d : Int) (va : Option Addr) (vl vc : Nat) (w : World) (hs : Sl w ia (strs ss)) (hn : ss.length = n) :
    Calls Tryf.prog 13 #[.slice ia n ic, .slice oa ol oc, .int .i64 d, .slice va vl vc] w fun e w' => ∃ t, e = .returned (.bool t) ∧ (t = true → n ≤ 1048576 ∧ ∀ s ∈ ss, s.size ≤ 1048576) ∧ w' = w := by
  by_cases h1 : 1048576 < n
  · go_enter Tryf.func13, Tryf.ntmps13
    go_wp2_with fail
    go_ret
    exact ⟨_, rfl, by simp, rfl⟩
  · have HN : Hid (ss.length = n) := hn
    clear hn
    go_enter Tryf.func13, Tryf.ntmps13
    go_wp2_with fail
    go_loopw [9, 10] (fun z i wr => ∃ k : Nat, k ≤ n ∧ i = .int .i64 k ∧ (∃ y : Int, z = .int .i64 y ∧ 0 ≤ y ∧ y ≤ 1048576) ∧ Hid (∀ j, j < k → (ss.getD j ⟨#[]⟩).size ≤ 1048576) ∧ wr = w) (fun _ i _ => n - (intOf i).toNat)
    case atStart => exact ⟨0, Nat.zero_le _, rfl, ⟨_, rfl, by omega, by omega⟩, fun j hj => absurd hj (by omega), rfl⟩
    case round =>
      obtain ⟨k, hk, rfl, ⟨y, rfl, hy0, hy1⟩, HS, rfl⟩ := hrel
      by_cases hlt : k < n
      · have hkk : (strs ss)[k]? = some (.string (ss.getD k ⟨#[]⟩)) := by
          have : k < ss.length := by rw [HN.out]; exact hlt
          simp [strs, List.getD, this]
        obtain ⟨b, off, rfl, hc⟩ := hs.at k _ hkk
        obtain ⟨s, hss⟩ : ∃ s, s = ss.getD k ⟨#[]⟩ := ⟨_, rfl⟩
        rw [← hss] at hc
        have HSS := Lib.hid hss
        clear hss hkk
        by_cases hbig : 1048576 < s.size
        · go_wp2_with fail
          go_ret
          exact ⟨_, rfl, by simp, rfl⟩
        · by_cases hsum : 1048576 < y + s.size
          · go_wp2_with fail
            go_ret
            exact ⟨_, rfl, by simp, rfl⟩
          · go_wp2_with fail
            go_roundw
            case rel =>
              refine ⟨k + 1, by omega, by go_num, ⟨_, rfl, by omega, by omega⟩, fun j hj => ?_, by first | trivial | rfl⟩
              rcases Nat.lt_or_ge j k with h | h
              · exact HS.out j h
              · obtain rfl : j = k := by omega
                rw [← HSS.out]
                omega
            case measure => simp [intOf]; omega
      · obtain rfl : k = n := by omega
        have hall : Hid (∀ s ∈ ss, s.size ≤ 1048576) := by
          show ∀ s ∈ ss, s.size ≤ 1048576
          intro s hs'
          obtain ⟨j, hj, rfl⟩ := List.mem_iff_getElem.1 hs'
          have := HS.out j (by rw [← HN.out]; exact hj)
          simpa [List.getD, hj] using this
        go_wp2_with fail
        all_goals (go_ret; exact ⟨_, rfl, fun _ => ⟨by omega, hall.out⟩, rfl⟩)

end Go.Proofs.Qxb6616758aFmt
