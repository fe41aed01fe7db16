/-
  THE PROOF OF 'Rows.FnNpyHeaderDescrWindowToldSaid': the told and tied card. The walk: Qxb6616758aFmtLaw1w.
-/
import Derived.Test.Qxb6616758aFmtLaid
namespace Go.Proofs.Qxb6616758aFmt.fnNpyHeaderDescrWindow
open Go.ChangeShapes Go.WideShapes Go.ChangeAt Go.RowKit Go.Kit Go.Stop
open Go.ChangeMaps (open_string shut_string)
open Go.Proofs.Qxb6616758aFmt

/-- WHATEVER THE ARGUMENTS: true; nothing that was there has turned. -/
theorem walk (F : Interp) (a b : ByteArray) (x : Option Addr) (len cap : Nat) (zs : List Int) (w : World) (hF : F.told.answers w.tape) (htab : TabOk w) (hz : len ≤ 65536 → Ints w x len zs) :
    (x = none → len = 0 ∧ cap = 0) → Calls Tryf.prog 3 #[.string a, .string b, .slice x len cap] w fun e w' => e = .returned (.bool true) ∧ Below w.heap.size w w' := by
  intro hn
  by_cases h : a.size ≤ 262144 ∧ b.size ≤ 262144 ∧ len ≤ 65536
  · obtain ⟨h1, h2, h3⟩ := h
    cases x with
    | none =>
      obtain ⟨rfl, rfl⟩ := hn rfl
      exact law1_none F a b zs w hF htab h1 h2 (hz h3)
    | some x => exact law1_some F a b x len cap zs w hF htab h1 h2 h3 (hz h3)
  · exact law1_big a b x len cap w (by omega)

theorem wf_i64 {z : Int} (h : (Lit.int .i64 z).wf = true) : -9223372036854775808 ≤ z ∧ z ≤ 9223372036854775807 := by
  have := Go.Extern.FmtText.int_bounds h
  simpa [IntKind.min, IntKind.max, IntKind.signed, IntKind.bits] using this

set_option maxRecDepth 100000 in
theorem lifted (os : Os) (started : os.Started) (H : Type) (enc : TypeId × Value → H) :
    ReturnsInTold none {} Tryf.checked os 3 .any Input.okWide ((OpenSpec.ofChange Rows.fnNpyHeaderDescrWindowSpec).preRow enc Tryf.prog Tryf.f3 Rows.fnNpyHeaderDescrWindowRow.domain false Rows.fnNpyHeaderDescrWindowRow.laid)
      (fun F => ((OpenSpec.ofChange Rows.fnNpyHeaderDescrWindowSpec).at F).post enc Tryf.prog Tryf.f3 false true false false) (aloneAtReturn Tryf.prog) nothingAlways := by
  refine returnsInTold_of_row (C := Tryf.checked) (s := OpenSpec.ofChange Rows.fnNpyHeaderDescrWindowSpec) (by kernel_rfl) own started (by kernel_rfl) Tryf.func3
    (OpenSpec.witness_stopped_at (enc := enc) (C := Tryf.checked) false ({ World.holding Tryf.prog os ⟨#[], #[], []⟩ with heap := laidHeap (World.holding Tryf.prog os ⟨#[], #[], []⟩).heap } : World) #[.string ⟨#[]⟩, .string ⟨#[]⟩, .slice none 0 0] rfl (by kernel_rfl) (by kernel_rfl) (by kernel_rfl)
      (OpenSpec.preRow_of_B rfl 8 (by kernel_rfl) (by kernel_rfl) (laid_met1 os _))) ?_
  intro F W base args ds gs before _ hF hval0 hW _ _ _ hL _
  have hval : ∀ (j : Nat) t v, Tryf.f3.params[j]? = some t → args[j]? = some v → Value.okWide Tryf.prog W .any base t v := hval0
  have hW' := hW
  obtain ⟨p, q, hA0, hV, rfl, hfz, hnd⟩ := hW
  have hA : DataW.TrodAll enc Tryf.prog W 0 (fun _ => true) true Tryf.f3.params.toList args.toList ds p := hA0
  rw [Tryf.params3] at hA hval
  obtain ⟨v0, v1, v2, d0, d1, d2, p0, p1, p2, rfl, rfl, rfl, h0, h1, h2⟩ := trodAll_three hA
  obtain ⟨rfl, rfl⟩ := trodVars_none hV
  obtain ⟨a, rfl, rfl, rfl, wa⟩ := open_string Tryf.underlying9 (hval 0 9 v0 rfl rfl) h0
  obtain ⟨b, rfl, rfl, rfl, wb⟩ := open_string Tryf.underlying9 (hval 1 9 v1 rfl rfl) h1
  obtain ⟨x, len, cap, rfl⟩ := okWide_slice Tryf.underlying22 (hval 2 22 v2 rfl rfl)
  have k2 := h2
  have lt2 : ∀ y ∈ p2, y.block < W.heap.size := by obtain ⟨m, hm⟩ := k2; exact DataW.trod_lt m _ _ _ hm
  obtain ⟨zs, hz, hn⟩ : ∃ zs, Ints W x len zs ∧ (x = none → len = 0 ∧ cap = 0) := by
    obtain ⟨fuel, hf⟩ := h2
    rcases open_ints Tryf.underlying22 Tryf.underlying3 (by kernel_rfl) hf with ⟨hcs, _⟩ | ⟨y, l, c, zs, hcs, _, hl, hm, hz, _, hcell, hwz⟩
    · simp [Value.cells] at hcs
      obtain ⟨rfl, rfl, rfl⟩ := hcs
      exact ⟨[], ⟨rfl, fun _ => rfl, fun y hy => by simp at hy, by simp⟩, fun _ => ⟨rfl, rfl⟩⟩
    · simp [Value.cells] at hcs
      obtain ⟨rfl, rfl, rfl⟩ := hcs
      have hz' : zs.length = cap := by simpa using hz
      refine ⟨zs.take len, ⟨by simp; omega, by simp, fun y' hy' j v hv => ?_, fun z hzm => wf_i64 (hwz z (List.mem_of_mem_take hzm))⟩, by simp⟩
      obtain rfl : y = y' := by simpa using hy'
      obtain ⟨hj, hv'⟩ := List.getElem?_eq_some_iff.1 hv
      have hj' : j < zs.length := by simp at hj; omega
      rw [hcell j hj']
      rw [List.getElem_take] at hv'
      simp [hj', hv']
  clear hA0 hval0
  have htab : TabOk W := Lib.tabIs_of_head (g := 3) (t := 106) (e := 94) (n := 20) (by kernel_rfl) (by kernel_rfl) Tryf.underlying106 Tryf.underlying94 (by kernel_rfl) (by kernel_rfl) hL.tail.tail
  refine (walk F a b x len cap zs W hF htab (fun _ => hz) hn).mono fun e W' ⟨he, bel⟩ => ?_
  subst he
  exact ⟨_, rfl, _, _, _, [], _, [], hW', trodAll_mk1 (shut_bool Tryf.underlying4 _), trodAll_mk3 (shut_string Tryf.underlying9 wa) (shut_string Tryf.underlying9 wb) (Below.trod laidOut (by kernel_rfl) (of_decide_eq_true (by kernel_rfl)) k2 bel lt2), rfl, bel.frame _, fun h => by cases h⟩

theorem stops : Tryf.pinned.checked.prog.stops = ["fmt.Sprintf"] := by kernel_rfl
theorem stopKnobs : Tryf.pinned.checked.prog.stopKnobs = [] := by kernel_rfl
theorem quiet (os : Os) : Stop.quiet Tryf.pinned.checked.prog os := by
  intro k hk
  rw [stopKnobs] at hk
  cases hk

/-- THE STATEMENT -/
theorem proved : Rows.FnNpyHeaderDescrWindowToldSaid :=
  Claim7.holds_of_told_tied_any_at .later 3 Tryf.f3 "fmt.Sprintf" [] [] _ _ _ _ _ (by kernel_rfl) rfl rfl rfl laidOut (by kernel_rfl) rfl ⟨rfl, rfl, rfl, rfl, rfl, rfl, rfl⟩ rfl rfl (by kernel_rfl) (by kernel_rfl) Tryf.func3 (by kernel_rfl)
    (of_decide_eq_true (by kernel_rfl)) (by unfold Func.isWrapper; first | (rw [if_pos (by decide +kernel)]; kernel_rfl) | (rw [if_neg (by decide +kernel)]; exact ⟨rfl, rfl⟩)) stops.symm rfl stopKnobs.symm (by kernel_rfl)
    (by kernel_rfl) (by kernel_rfl) (by kernel_rfl) (by kernel_rfl) (by kernel_rfl) (by kernel_rfl) (by kernel_rfl) (by kernel_rfl) (by kernel_rfl) rfl (by kernel_rfl) rfl rfl
    rfl rfl
    rfl (by kernel_rfl) (by kernel_rfl) (by kernel_rfl) (by decide) (by kernel_rfl) fnNpyHeaderDescrWindow_row_tie
    (OpenClaim.moreEntering_of (by kernel_rfl) (by kernel_rfl) (by kernel_rfl) (by kernel_rfl) (by kernel_rfl) (by kernel_rfl) (by kernel_rfl) (by kernel_rfl) (by kernel_rfl) (by kernel_rfl))
    ⟨_, WideRow.started_initial, quiet _⟩
    (fun os started _ H enc _ => lifted os started H enc)
#print axioms proved
end Go.Proofs.Qxb6616758aFmt.fnNpyHeaderDescrWindow
