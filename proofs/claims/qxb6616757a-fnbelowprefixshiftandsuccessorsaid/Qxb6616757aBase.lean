import Derived.Test.Qxb6616757aRows
import Derived.Test.Qxb6616757aPlain
import Derived.WalkKit
import Derived.WalkSpells
import Derived.WalkLawsBesides
import Derived.Laws.CopyOwn
namespace Go.Proofs.Qxb6616757a
open Go.RowKit

theorem Try.info5 : (Try.prog.info? 5).map (fun i => (i.zero, i.size, i.bytes)) = some (some (.int .u8 0), 1, 1) := by kernel_rfl
theorem Try.size5 : (Try.prog.info? 5).map (·.size) = some 1 := by kernel_rfl

/-- A slice of bytes, as far as it is read: its elements are xs. -/
def Holds (w : World) (a : Option Addr) (len : Nat) (xs : List Int) : Prop :=
  xs.length = len ∧ (a = none → len = 0) ∧ ∀ x, a = some x → ∀ j v, xs[j]? = some v → w.cell? (x.add j) = some (.int .u8 v)

theorem Holds.below {w w' : World} {a : Option Addr} {len : Nat} {xs : List Int} (h : Holds w a len xs) (hb : Below w.heap.size w w') : Holds w' a len xs :=
  ⟨h.1, h.2.1, fun x hx j v hv => cell_later hb (h.2.2 x hx j v hv)⟩

theorem add_at (b off i : Nat) : Addr.add ⟨b, off, none⟩ i = ⟨b, off + i, none⟩ := by
  by_cases h : i = 0 <;> simp [Addr.add, h]

theorem run_bytesOf {P : Program} {w : World} {a : Option Addr} {len : Nat} {xs : List Int} (h : Holds w a len xs) (c : Nat) :
    (Extern.Bytes.bytesOf (.slice a len c)).run P w = .ok ⟨(Lib.bytesOf xs).toArray⟩ w := by
  obtain ⟨hl, hn, hc⟩ := h
  cases a with
  | none =>
    have h0 : xs = [] := List.eq_nil_of_length_eq_zero (hl.trans (hn rfl))
    subst h0
    simp [Extern.Bytes.bytesOf, Lib.bytesOf]
    rfl
  | some x =>
    have := Lib.run_loadBytesX (P := P) w xs x .empty (hc x rfl)
    rw [hl] at this
    simp only [Extern.Bytes.bytesOf, this]
    congr 1
    apply ByteArray.ext
    show (#[] : Array UInt8) ++ (Lib.bytesOf xs).toArray = (Lib.bytesOf xs).toArray
    simp

theorem run_compare {w : World} {a b : Option Addr} {la lb : Nat} {xs ys : List Int} (ha : Holds w a la xs) (hb : Holds w b lb ys) (ca cb : Nat) :
    (callFunc 9 #[.slice a la ca, .slice b lb cb]).run Try.prog w = .ok (.value (.int .i64 (Lib.compareBytes (Lib.bytesOf xs) (Lib.bytesOf ys)))) w := by
  rw [run_callFunc_extern Try.func9 (by kernel_rfl) (by kernel_rfl) (by kernel_rfl) (e := Extern.BytealgCompare.compare) (by kernel_rfl)]
  have e : (Extern.BytealgCompare.compare #[.slice a la ca, .slice b lb cb]).run Try.prog w = .ok (.int .i64 (Lib.compareBytes (Lib.bytesOf xs) (Lib.bytesOf ys))) w := by
    change Sem.run Try.prog (do pure (goInt (Extern.BytealgCompare.cmp (← Extern.Bytes.bytesOf (.slice a la ca)) (← Extern.Bytes.bytesOf (.slice b lb cb))))) w = _
    simp only [Sem.run_bind, run_bytesOf ha, run_bytesOf hb, Sem.run_pure, Result.andThen, Lib.cmp_eq]
    rfl
  rw [e]
  rfl

set_option maxHeartbeats 400000 in
theorem compare_any {a b : Option Addr} {la lb : Nat} {xs ys : List Int} (ca cb : Nat) (w : World) (ha : Holds w a la xs) (hb : Holds w b lb ys) :
    Calls Try.prog 8 #[.slice a la ca, .slice b lb cb] w fun e w' => e = .returned (.int .i64 (Lib.compareBytes (Lib.bytesOf xs) (Lib.bytesOf ys))) ∧ w' = w := by
  have hrun := run_compare ha hb ca cb
  clear ha hb
  generalize Lib.compareBytes (Lib.bytesOf xs) (Lib.bytesOf ys) = r at *
  go_enter Try.func8, Try.ntmps8
  go_wp2
  go_ret
  exact ⟨rfl, rfl⟩

set_option maxHeartbeats 400000 in
theorem below_any {a b : Option Addr} {la lb : Nat} {xs ys : List Int} (ca cb : Nat) (w : World) (ha : Holds w a la xs) (hb : Holds w b lb ys) :
    Calls Try.prog 6 #[.slice a la ca, .slice b lb cb] w fun e w' => e = .returned (.bool (belowB b xs ys)) ∧ w' = w := by
  have q22 : ∀ (w : World), (binOp .eql 22 (.slice b lb cb) (.slice none 0 0)).run Try.prog w = .ok (.bool b.isNone) w := fun w => Lib.run_eql_slice_nil w _ _ b lb cb 0 0 Try.underlying22
  cases b with
  | none =>
    simp only [Option.isNone_none] at q22
    clear ha hb
    go_enter Try.func6, Try.ntmps6
    go_wp2
    go_ret
    exact ⟨rfl, rfl⟩
  | some y =>
    simp only [Option.isNone_some] at q22
    go_enter Try.func6, Try.ntmps6
    go_wp2_with (first | (go_at_call 8; refine (compare_any ca cb _ ha hb).mono ?_; rintro e w' ⟨rfl, rfl⟩) | go_in)
    go_ret
    exact ⟨rfl, rfl⟩

set_option maxHeartbeats 400000 in
theorem join_any {a b : Option Addr} {la lb : Nat} {xs ys : List Int} (ca cb : Nat) (w : World) (ha : Holds w a la xs) (hb : Holds w b lb ys) (hla : la ≤ 2097152) (hlb : lb ≤ 2097152)
    (hca : a = none → ca = 0) (hcb : b = none → cb = 0) :
    Calls Try.prog 5 #[.slice a la ca, .slice b lb cb] w fun e w' => ∃ g n, e = .returned (.slice (some g) n n) ∧ n = la + lb ∧ Holds w' (some g) n (xs ++ ys) ∧ Below w.heap.size w w' := by
  obtain ⟨i0, hi, hz0, hz1, hz2⟩ := info_parts Try.info5
  go_enter Try.func5, Try.ntmps5
  go_wp2_with (at_make; refine wpList_make_own _ rfl _ _ 22 rfl w.heap.size 5 i0 (.int .u8 0) 1 Try.underlying22 hi hz0 hz1 .i64 .i64 _ (la + lb) rfl rfl (by omega) (by rw [hz2]; omega) (by unfold maxLen; omega) (Nat.le_refl _) ?_)
  intro w1 hown hgrow
  have hb1 : Below w.heap.size w w1 := (Below.refl _ _).grown hgrow (Nat.le_refl _) (fun k hk => by cases hk)
  have ha1 := ha.below hb1
  have hy1 := hb.below hb1
  have hx1 : ∀ ad, a = some ad → ∀ j u, (xs.map (Value.int .u8))[j]? = some u → w1.cell? (ad.add j) = some u := by
    intro ad e j u hu
    rw [List.getElem?_map] at hu
    obtain ⟨v, hv, rfl⟩ := Option.map_eq_some_iff.1 hu
    exact ha1.2.2 ad e j v hv
  have hxl : (xs.map (Value.int .u8)).length = la * 1 := by simp [ha.1]
  have hyl : (ys.map (Value.int .u8)).length = lb * 1 := by simp [hb.1]
  have hon : ∀ u ∈ xs.map (Value.int .u8), u.oneCell' = true := ints_oneCell _ _
  have hon2 : ∀ u ∈ ys.map (Value.int .u8), u.oneCell' = true := ints_oneCell _ _
  have hn1 : a = none → la = 0 ∧ ca = 0 := fun e => ⟨ha.2.1 e, hca e⟩
  have hn2 : b = none → lb = 0 ∧ cb = 0 := fun e => ⟨hb.2.1 e, hcb e⟩
  clear hgrow
  go_wp2_with (at_builtin; refine wpList_append_fits_any _ rfl (.tmp 12) (.tmp 13) 22 rfl w.heap.size 5 i0 1 Try.underlying22 hi hz1 w.heap.size 0 (la + lb) [] rfl hown a la ca _ rfl hxl hn1 hx1 hon (by omega) ?_)
  intro w2 hown2 hgrow2
  have hb2 : Below w.heap.size w w2 := hb1.grown hgrow2 hb1.size (fun k hk => by cases hk; exact Nat.le_refl _)
  have hy2 := hb.below hb2
  have hx2 : ∀ ad, b = some ad → ∀ j u, (ys.map (Value.int .u8))[j]? = some u → w2.cell? (ad.add j) = some u := by
    intro ad e j u hu
    rw [List.getElem?_map] at hu
    obtain ⟨v, hv, rfl⟩ := Option.map_eq_some_iff.1 hu
    exact hy2.2.2 ad e j v hv
  clear hgrow2 hown hx1
  go_wp2_with (at_builtin; refine wpList_append_fits_any _ rfl (.tmp 15) (.tmp 16) 22 rfl w.heap.size 5 i0 1 Try.underlying22 hi hz1 w.heap.size la (la + lb) _ rfl hown2 b lb cb _ rfl hyl hn2 hx2 hon2 (by omega) ?_)
  intro w3 hown3 hgrow3
  have hb3 : Below w.heap.size w w3 := hb2.grown hgrow3 hb2.size (fun k hk => by cases hk; exact Nat.le_refl _)
  have R : Holds w3 (some ⟨w.heap.size, 0, none⟩) (la + lb) (xs ++ ys) := by
    refine ⟨by simp [ha.1, hb.1], by simp, fun x hx j v hv => ?_⟩
    obtain rfl : (⟨w.heap.size, 0, none⟩ : Addr) = x := by simpa using hx
    have hj : j < la + lb := by
      have := (List.getElem?_eq_some_iff.1 hv).1
      simpa [ha.1, hb.1] using this
    rw [add_at, Nat.zero_add, hown3.cellAt j (by omega), ← List.map_append, List.getElem?_map, hv]
    rfl
  clear hgrow3 hown3 hown2 hx2
  go_wp2
  go_ret
  exact ⟨_, _, rfl, rfl, R, hb3⟩

end Go.Proofs.Qxb6616757a
