import Derived.Test.Qxb6616399aRows
import Derived.Test.Qxb6616399aLocks
import Derived.WalkKit
import Derived.WalkSpells
import Derived.WalkLawsBesides
namespace Go.Proofs.Qxb6616399a
open Go.RowKit

/-- A slice of integers that can be read: nil; or a row of 'cap' cells, the numbers 'zs'. -/
def IsRow (k : IntKind) (w : World) (a : Option Addr) (len cap : Nat) (zs : List Int) : Prop :=
  (a = none ∧ len = 0 ∧ cap = 0 ∧ zs = []) ∨
  ∃ x, a = some x ∧ len ≤ cap ∧ cap ≤ maxLen ∧ zs.length = cap ∧ (∀ i, i < zs.length → w.cell? (x.add i) = some (.int k (zs.getD i 0))) ∧ ∀ n ∈ zs, (Lit.int k n).wf = true

/-- The same, nothing said of the numbers' size. -/
def ReadRow (w : World) (a : Option Addr) (len cap : Nat) (zs : List Int) : Prop :=
  (a = none ∧ len = 0 ∧ cap = 0 ∧ zs = []) ∨
  ∃ x, a = some x ∧ len ≤ cap ∧ cap ≤ maxLen ∧ zs.length = cap ∧ ∀ i, i < zs.length → w.cell? (x.add i) = some (.int .u8 (zs.getD i 0))

theorem IsRow.read {w : World} {a : Option Addr} {len cap : Nat} {zs : List Int} (h : IsRow .u8 w a len cap zs) : ReadRow w a len cap zs := by
  rcases h with h | ⟨x, h1, h2, h3, h4, h5, _⟩
  · exact .inl h
  · exact .inr ⟨x, h1, h2, h3, h4, h5⟩

theorem Try.info5 : (Try.prog.info? 5).map (fun i => (i.zero, i.size, i.bytes)) = some (some (.int .u8 0), 1, 1) := by kernel_rfl

theorem ReadRow.below {w w' : World} {a : Option Addr} {len cap : Nat} {zs : List Int} (h : ReadRow w a len cap zs) (hb : Below w.heap.size w w') : ReadRow w' a len cap zs := by
  rcases h with h | ⟨x, h1, h2, h3, h4, h5⟩
  · exact .inl h
  · exact .inr ⟨x, h1, h2, h3, h4, fun i hi => cell_later hb (h5 i hi)⟩

set_option maxHeartbeats 400000 in
theorem clone_nil (w : World) :
    Calls Try.prog 8 #[.slice none 0 0] w fun e w' => e = .returned (.slice none 0 0) ∧ w' = w := by
  have q24 : ∀ (w : World), (binOp .eql 24 (.slice none 0 0) (.slice none 0 0)).run Try.prog w = .ok (.bool true) w := fun w => Lib.run_eql_slice_nil w _ _ none 0 0 0 0 Try.underlying24
  go_enter Try.func8, Try.ntmps8
  go_wp2
  go_ret
  exact ⟨rfl, rfl⟩

theorem add_at (b off i : Nat) : Addr.add ⟨b, off, none⟩ i = ⟨b, off + i, none⟩ := by
  by_cases h : i = 0 <;> simp [Addr.add, h]

/-- A cell of a row that came in: its address has no spot. -/
theorem row_at {k : IntKind} {w : World} {x : Addr} {zs : List Int} (h : ∀ i, i < zs.length → w.cell? (x.add i) = some (.int k (zs.getD i 0))) (hp : 0 < zs.length) :
    ∃ b off, x = ⟨b, off, none⟩ ∧ b < w.heap.size ∧ ∀ i, i < zs.length → w.cell? ⟨b, off + i, none⟩ = some (.int k (zs.getD i 0)) := by
  obtain ⟨b, off, sp⟩ := x
  have h0 := h 0 hp
  have hb := World.block_lt_of_cell? _ _ h0
  cases sp with
  | none => exact ⟨b, off, rfl, hb, fun i hi => by rw [← add_at]; exact h i hi⟩
  | some s =>
    exfalso
    simp only [World.cell?, Addr.add] at h0
    split at h0 <;> simp at h0

set_option maxHeartbeats 400000 in
theorem clone_some (x : Addr) (len cap : Nat) (zs : List Int) (w : World) (hl : len ≤ cap) (hz : zs.length = cap) (hlen : len ≤ 262144)
    (hcell : ∀ i, i < zs.length → w.cell? (x.add i) = some (.int .u8 (zs.getD i 0))) :
    Calls Try.prog 8 #[.slice (some x) len cap] w fun e w' => ∃ ys : List Int, ys.length = len ∧ e = .returned (.slice (some ⟨w.heap.size, 0, none⟩) len len) ∧
      w'.ownsRow w.heap.size 5 1 (.slice (some ⟨w.heap.size, 0, none⟩) len len) len (ys.map (Value.int .u8)) ∧ Below w.heap.size w w' := by
  have q24 : ∀ (w : World), (binOp .eql 24 (.slice (some x) len cap) (.slice none 0 0)).run Try.prog w = .ok (.bool false) w := fun w => Lib.run_eql_slice_nil w _ _ (some x) len cap 0 0 Try.underlying24
  obtain ⟨i0, hi, hz0, hz1, hz2⟩ := info_parts Try.info5
  go_enter Try.func8, Try.ntmps8
  go_wp2_with (at_make; refine wpList_make_full _ rfl _ _ 24 rfl w.heap.size 5 i0 (.int .u8 0) 1 Try.underlying24 hi hz0 hz1 .i64 .i64 _ _ len rfl rfl (by simp) (by simp) (by rw [hz2]; omega) (by unfold maxLen; omega) (Nat.le_refl _) ?_)
  intro w1 hown hgrow
  have hb1 : Below w.heap.size w w1 := (Below.refl _ _).grown hgrow (Nat.le_refl _) (fun k hk => by cases hk)
  have hown1 : ∃ ys : List Int, ys.length = len ∧ w1.ownsRow w.heap.size 5 1 (.slice (some ⟨w.heap.size, 0, none⟩) len len) len (ys.map (Value.int .u8)) := by
    refine ⟨List.replicate len 0, by simp, ?_⟩
    simpa [Value.cells, toList_madeCells_one] using hown
  clear hown hgrow
  go_wp2
  go_loopw [4] (fun i wr => ∃ (k : Nat) (ys : List Int), k ≤ len ∧ i = .int .i64 k ∧ ys.length = len ∧ wr.ownsRow w.heap.size 5 1 (.slice (some ⟨w.heap.size, 0, none⟩) len len) len (ys.map (Value.int .u8)) ∧ Below w.heap.size w wr) (fun i _ => len - (intOf i).toNat)
  case atStart => obtain ⟨ys, hy, ho⟩ := hown1; exact ⟨0, ys, Nat.zero_le _, rfl, hy, ho, hb1⟩
  case round =>
    obtain ⟨k, ys, hk, rfl, hy, ho, hbr⟩ := hrel
    by_cases hlt : k < len
    · obtain ⟨b, off, rfl, hbs, hc⟩ := row_at hcell (by omega)
      have hcx : wr.cell? ⟨b, off + k, none⟩ = some (.int .u8 (zs.getD k 0)) := (hbr.cell (by exact hbs)).trans (hc k (by omega))
      have hfz : wr.frozen? ⟨w.heap.size, k, none⟩ = false := ho.frozenAt k
      have hcy : wr.cell? ⟨w.heap.size, k, none⟩ = some (.int .u8 (ys.getD k 0)) := by
        rw [ho.cellAt k (by omega)]; simp [hy, hlt]
      have hst := ho.stored k (.int .u8 (zs.getD k 0))
      have R : (wr.setCell ⟨w.heap.size, k, none⟩ (.int .u8 (zs.getD k 0))).ownsRow w.heap.size 5 1 (.slice (some ⟨w.heap.size, 0, none⟩) len len) len ((ys.set k (zs.getD k 0)).map (Value.int .u8)) := by
        rw [List.map_set]; exact hst.1
      have R2 : Below w.heap.size w (wr.setCell ⟨w.heap.size, k, none⟩ (.int .u8 (zs.getD k 0))) := hbr.setCell (Nat.le_refl _) _
      clear hst hown1 hc hcell ho
      go_wp2
      go_roundw
      case rel => exact ⟨k + 1, ys.set k (zs.getD k 0), by omega, by go_num, by simpa using hy, R, R2⟩
      case measure => simp [intOf]; omega
    · go_wp2
      go_ret
      exact ⟨ys, hy, rfl, ho, hbr⟩

/-- What 'zzCloneBytesB1' hands back: a row that can be read; nothing old has turned. -/
theorem clone_any (a : Option Addr) (len cap : Nat) (zs : List Int) (w : World) (h : ReadRow w a len cap zs) (hlen : len ≤ 262144) :
    Calls Try.prog 8 #[.slice a len cap] w fun e w' => ∃ (a' : Option Addr) (cap' : Nat) (zs' : List Int), e = .returned (.slice a' len cap') ∧ ReadRow w' a' len cap' zs' ∧ Below w.heap.size w w' := by
  rcases h with ⟨rfl, rfl, rfl, rfl⟩ | ⟨x, rfl, h2, _, h4, h5⟩
  · refine (clone_nil w).mono ?_
    rintro e w' ⟨rfl, rfl⟩
    exact ⟨none, 0, [], rfl, .inl ⟨rfl, rfl, rfl, rfl⟩, Below.refl _ _⟩
  · refine (clone_some x len cap zs w h2 h4 hlen h5).mono ?_
    rintro e w' ⟨ys, hy, rfl, ho, hb⟩
    refine ⟨_, _, ys, rfl, .inr ⟨_, rfl, Nat.le_refl _, by unfold maxLen; omega, hy, fun i hi => ?_⟩, hb⟩
    have := ho.cellAt i (by omega)
    rw [add_at, Nat.zero_add, this]
    simp [show i < ys.length from hi]

end Go.Proofs.Qxb6616399a
