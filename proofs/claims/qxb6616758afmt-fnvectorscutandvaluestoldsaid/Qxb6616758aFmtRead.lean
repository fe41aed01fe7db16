import Derived.Test.Qxb6616758aFmtLaw5
import Derived.Test.Qxb6616758aFmtLaid
import Derived.SliceStrings
import Derived.Deep.Slices
namespace Go.Proofs.Qxb6616758aFmt
open Go.ChangeShapes Go.WideShapes Go.ChangeAt Go.RowKit Go.Kit Go.Stop

section
variable {H : Type} {enc : TypeId × Value → H} {W : World} {x : Option Addr} {len cap : Nat} {d : DataW H} {p : List MemPlace}

theorem trod_f32 {base : Nat} {spare : Nat → Bool} {held : Bool} {fuel : Nat} {v : Value} {y : DataW H × List MemPlace} (h : DataW.trod enc Tryf.prog W base spare held fuel 35 [v] = some y) : ∃ b, v = .float .f32 b ∧ b < 4294967296 := by
  cases fuel with
  | zero => simp [DataW.trod] at h
  | succ n =>
    simp only [DataW.trod, Tryf.underlying35] at h
    cases v <;> simp at h
    rename_i k b
    obtain ⟨⟨rfl, hw⟩, _⟩ := h
    refine ⟨b, rfl, ?_⟩
    simpa [Lit.wf] using hw

theorem read_strs (h : DataW.Trod enc Tryf.prog W 0 (fun _ => true) true 27 (.slice x len cap) d p) : ∃ ss : List ByteArray, ss.length = len ∧ Sl W x (strs ss) := by
  obtain ⟨fuel, hf⟩ := h
  rcases open_strings Tryf.underlying27 Tryf.underlying9 (by kernel_rfl) hf with ⟨hcs, _⟩ | ⟨y, l, c, zs, hcs, _, hl, hm, hz, _, hcell, _⟩
  · simp [Value.cells] at hcs
    obtain ⟨rfl, rfl, rfl⟩ := hcs
    exact ⟨[], rfl, fun _ => rfl, fun y hy => by simp at hy⟩
  · simp [Value.cells] at hcs
    obtain ⟨rfl, rfl, rfl⟩ := hcs
    have hz' : zs.length = cap := by simpa using hz
    refine ⟨zs.take len, by simp; omega, by simp, fun y' hy' j v hv => ?_⟩
    obtain rfl : y = y' := by simpa using hy'
    have hj : j < len := by
      have := (List.getElem?_eq_some_iff.1 hv).1
      simp [Proofs.Qxb6616758aFmt.strs] at this
      omega
    rw [hcell j (by omega)]
    have hj2 : j < zs.length := by omega
    simp [Proofs.Qxb6616758aFmt.strs, hj, hj2] at hv
    simp [hj2, hv]

theorem read_u32 (h : DataW.Trod enc Tryf.prog W 0 (fun _ => true) true 28 (.slice x len cap) d p) : ∃ os : List Value, os.length = len ∧ Sl W x os ∧ ∀ v ∈ os, v.oneCell' = true := by
  obtain ⟨fuel, hf⟩ := h
  rcases open_ints Tryf.underlying28 Tryf.underlying52 (by kernel_rfl) hf with ⟨hcs, _⟩ | ⟨y, l, c, zs, hcs, _, hl, hm, hz, _, hcell, _⟩
  · simp [Value.cells] at hcs
    obtain ⟨rfl, rfl, rfl⟩ := hcs
    exact ⟨[], rfl, ⟨fun _ => rfl, fun y hy => by simp at hy⟩, by simp⟩
  · simp [Value.cells] at hcs
    obtain ⟨rfl, rfl, rfl⟩ := hcs
    have hz' : zs.length = cap := by simpa using hz
    refine ⟨(zs.take len).map (Value.int .u32), by simp; omega, ⟨by simp, fun y' hy' j v hv => ?_⟩, ints_oneCell _ _⟩
    obtain rfl : y = y' := by simpa using hy'
    have hj : j < len := by
      have := (List.getElem?_eq_some_iff.1 hv).1
      simp at this
      omega
    rw [hcell j (by omega)]
    have hj2 : j < zs.length := by omega
    simp [hj, hj2] at hv
    simp [hj2, hv]

theorem read_f32 (h : DataW.Trod enc Tryf.prog W 0 (fun _ => true) true 29 (.slice x len cap) d p) : ∃ xs : List Nat, xs.length = len ∧ Sl W x (flts xs) ∧ (∀ v ∈ xs, v < 4294967296) ∧ len ≤ cap := by
  obtain ⟨fuel, hf⟩ := h
  rcases Go.Deep.open_slice1 Tryf.underlying29 (by kernel_rfl) hf with ⟨hcs, _⟩ | ⟨y, l, c, m, n, V, D, Pl, hcs, _, hl, hm, hmm, _, hcell⟩
  · simp [Value.cells] at hcs
    obtain ⟨rfl, rfl, rfl⟩ := hcs
    exact ⟨[], rfl, ⟨fun _ => rfl, fun y hy => by simp at hy⟩, by simp, Nat.le_refl _⟩
  · simp [Value.cells] at hcs
    obtain ⟨rfl, rfl, rfl⟩ := hcs
    have hm' : m = cap := by simpa using hmm
    subst hm'
    have hV : ∀ i, i < len → ∃ b, V i = .float .f32 b ∧ b < 4294967296 := fun i hi => trod_f32 (hcell i (by omega)).2
    let bits : Value → Nat := fun | .float _ b => b | _ => 0
    refine ⟨(List.range len).map (fun i => bits (V i)), by simp, ⟨by simp, fun y' hy' j v hv => ?_⟩, ?_, hl⟩
    · obtain rfl : y = y' := by simpa using hy'
      have hj : j < len := by
        have := (List.getElem?_eq_some_iff.1 hv).1
        simpa [flts] using this
      rw [(hcell j (by omega)).1]
      obtain ⟨b, hb, _⟩ := hV j hj
      simp [flts, hj] at hv
      rw [← hv, hb]
    · intro v hv
      obtain ⟨i, hi, rfl⟩ := List.mem_map.1 hv
      obtain ⟨b, hb, hlt⟩ := hV i (by simpa using hi)
      show bits (V i) < _
      rw [hb]
      exact hlt
end

/-- The error's struct: io.ErrShortWrite's. -/
def shortWrite : Obj := .cells #[.string ⟨#[115, 104, 111, 114, 116, 32, 119, 114, 105, 116, 101]⟩] 134

/-- A heap with the three tables and io.ErrShortWrite laid. -/
def laidHeap4 (h : Array Obj) : Array Obj := (laidHeap h).modify 2 (relay #[.iface 113 (.pointer (some ⟨13, 0, none⟩))])

theorem laid_met5 (os : Os) (args : Array Value) : laidMet Tryf.prog Rows.fnVectorsHeaderIsNpyHeaderRow.laid (({ World.holding Tryf.prog os ⟨#[shortWrite], #[], []⟩ with heap := laidHeap4 (World.holding Tryf.prog os ⟨#[shortWrite], #[], []⟩).heap } : World).forCall (fun _ _ => 0) ⟨#[], args, []⟩).memory :=
  (LaidIn.of_run [5, 6, 3, 2, 13] 8 (by kernel_rfl) (by kernel_rfl) (by kernel_rfl) (by kernel_rfl)).met

end Go.Proofs.Qxb6616758aFmt
