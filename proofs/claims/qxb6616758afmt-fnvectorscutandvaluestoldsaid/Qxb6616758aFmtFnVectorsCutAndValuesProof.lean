/-
  THE PROOF OF 'Rows.FnVectorsCutAndValuesToldSaid': the told and tied card. The walk: Qxb6616758aFmtLaw4.
-/
import Derived.Test.Qxb6616758aFmtRead4
namespace Go.Proofs.Qxb6616758aFmt.fnVectorsCutAndValues
open Go.ChangeShapes Go.WideShapes Go.ChangeAt Go.RowKit Go.Kit Go.Stop
open Go.ChangeMaps (open_string shut_string)
open Go.Proofs.Qxb6616758aFmt

/-- WHATEVER THE ARGUMENTS: true; nothing that was there has turned. -/
theorem walk (F : Interp) (ia : Option Addr) (n ic : Nat) (ss : List ByteArray) (oa : Option Addr) (ol oc : Nat) (os : List Value) (d : Int) (va : Option Addr) (vl vc : Nat) (k0 : Int) (xs : List Nat) (w : World) (hF : F.told.answers w.tape) (htab : TabOk w)
    (hs : Sl w ia (strs ss)) (hn : ss.length = n) (ho : Sl w oa os) (hol : os.length = ol) (hone : ∀ v ∈ os, v.oneCell' = true) (hv : Sl w va (flts xs)) (hvl : xs.length = vl) (hx : ∀ x ∈ xs, x < 4294967296) (hvc : vl ≤ vc) :
    Calls Tryf.prog 4 #[.slice ia n ic, .slice oa ol oc, .int .i64 d, .slice va vl vc, .int .i64 k0] w fun e w' => e = .returned (.bool true) ∧ Below w.heap.size w w' := by
  by_cases h : n ≤ 65536 ∧ ol ≤ 262144 ∧ vl ≤ 262144
  · exact law4_any F ia n ic ss oa ol oc os d va vl vc k0 xs w hF htab hs hn ho hol hone hv hvl hx hvc h.1 h.2.1 h.2.2
  · exact law4_big ia n ic ss oa ol oc d va vl vc k0 w hs hn (by omega)

set_option maxRecDepth 100000 in
theorem lifted (os : Os) (started : os.Started) (H : Type) (enc : TypeId × Value → H) :
    ReturnsInTold none {} Tryf.checked os 4 .any Input.okWide ((OpenSpec.ofChange Rows.fnVectorsCutAndValuesSpec).preRow enc Tryf.prog Tryf.f4 Rows.fnVectorsCutAndValuesRow.domain false Rows.fnVectorsCutAndValuesRow.laid)
      (fun F => ((OpenSpec.ofChange Rows.fnVectorsCutAndValuesSpec).at F).post enc Tryf.prog Tryf.f4 false true false false) (aloneAtReturn Tryf.prog) nothingAlways := by
  refine returnsInTold_of_row (C := Tryf.checked) (s := OpenSpec.ofChange Rows.fnVectorsCutAndValuesSpec) (by kernel_rfl) own started (by kernel_rfl) Tryf.func4
    (OpenSpec.witness_stopped_at (enc := enc) (C := Tryf.checked) false ({ World.holding Tryf.prog os ⟨#[shortWrite], #[], []⟩ with heap := laidHeap4 (World.holding Tryf.prog os ⟨#[shortWrite], #[], []⟩).heap } : World) #[.slice none 0 0, .slice none 0 0, .int .i64 0, .slice none 0 0, .int .i64 0] rfl (by kernel_rfl) (by kernel_rfl) (by kernel_rfl)
      (OpenSpec.preRow_of_B rfl 8 (by kernel_rfl) (by kernel_rfl) (laid_met4 os _))) ?_
  intro F W base args ds gs before _ hF hval0 hW _ _ _ hL _
  have hval : ∀ (j : Nat) t v, Tryf.f4.params[j]? = some t → args[j]? = some v → Value.okWide Tryf.prog W .any base t v := hval0
  have hW' := hW
  obtain ⟨p, q, hA0, hV, rfl, hfz, hnd⟩ := hW
  have hA : DataW.TrodAll enc Tryf.prog W 0 (fun _ => true) true Tryf.f4.params.toList args.toList ds p := hA0
  rw [Tryf.params4] at hA hval
  obtain ⟨v0, v1, v2, v3, v4, d0, d1, d2, d3, d4, p0, p1, p2, p3, p4, rfl, rfl, rfl, h0, h1, h2, h3, h4⟩ := trodAll_5 hA
  obtain ⟨rfl, rfl⟩ := trodVars_none hV
  obtain ⟨ia, n, ic, rfl⟩ := okWide_slice Tryf.underlying27 (hval 0 27 v0 rfl rfl)
  obtain ⟨oa, ol, oc, rfl⟩ := okWide_slice Tryf.underlying28 (hval 1 28 v1 rfl rfl)
  obtain ⟨d, rfl, rfl, rfl, wd⟩ := open_int Tryf.underlying3 (hval 2 3 v2 rfl rfl) h2
  obtain ⟨va, vl, vc, rfl⟩ := okWide_slice Tryf.underlying29 (hval 3 29 v3 rfl rfl)
  obtain ⟨k0, rfl, rfl, rfl, wk⟩ := open_int Tryf.underlying3 (hval 4 3 v4 rfl rfl) h4
  have lt0 : ∀ y ∈ p0, y.block < W.heap.size := by obtain ⟨m, hm⟩ := h0; exact DataW.trod_lt m _ _ _ hm
  have lt1 : ∀ y ∈ p1, y.block < W.heap.size := by obtain ⟨m, hm⟩ := h1; exact DataW.trod_lt m _ _ _ hm
  have lt3 : ∀ y ∈ p3, y.block < W.heap.size := by obtain ⟨m, hm⟩ := h3; exact DataW.trod_lt m _ _ _ hm
  obtain ⟨ss, hn, hs⟩ := read_strs h0
  obtain ⟨os', hol, ho, hone⟩ := read_u32 h1
  obtain ⟨xs, hvl, hv, hx, hvc⟩ := read_f32 h3
  clear hA0 hval0
  have htab : TabOk W := Lib.tabIs_of_head (g := 3) (t := 106) (e := 94) (n := 20) (by kernel_rfl) (by kernel_rfl) Tryf.underlying106 Tryf.underlying94 (by kernel_rfl) (by kernel_rfl) hL.tail.tail
  refine (walk F ia n ic ss oa ol oc os' d va vl vc k0 xs W hF htab hs hn ho hol hone hv hvl hx hvc).mono fun e W' ⟨he, bel⟩ => ?_
  subst he
  exact ⟨_, rfl, _, _, _, [], _, [], hW', trodAll_mk1 (shut_bool Tryf.underlying4 _), trodAll_mk5' (Below.trod laidOut (by kernel_rfl) (of_decide_eq_true (by kernel_rfl)) h0 bel lt0) (Below.trod laidOut (by kernel_rfl) (of_decide_eq_true (by kernel_rfl)) h1 bel lt1) (shut_int Tryf.underlying3 wd) (Below.trod laidOut (by kernel_rfl) (of_decide_eq_true (by kernel_rfl)) h3 bel lt3) (shut_int Tryf.underlying3 wk), rfl, bel.frame _, fun h => by cases h⟩

theorem stops : Tryf.pinned.checked.prog.stops = ["fmt.Sprintf"] := by kernel_rfl
theorem stopKnobs : Tryf.pinned.checked.prog.stopKnobs = [] := by kernel_rfl
theorem quiet (os : Os) : Stop.quiet Tryf.pinned.checked.prog os := by
  intro k hk
  rw [stopKnobs] at hk
  cases hk

/-- THE STATEMENT -/
theorem proved : Rows.FnVectorsCutAndValuesToldSaid :=
  Claim7.holds_of_told_tied_any_at .later 4 Tryf.f4 "fmt.Sprintf" [] [] _ _ _ _ _ (by kernel_rfl) rfl rfl rfl laidOut (by kernel_rfl) rfl ⟨rfl, rfl, rfl, rfl, rfl, rfl, rfl⟩ rfl rfl (by kernel_rfl) (by kernel_rfl) Tryf.func4 (by kernel_rfl)
    (of_decide_eq_true (by kernel_rfl)) (by unfold Func.isWrapper; first | (rw [if_pos (by decide +kernel)]; kernel_rfl) | (rw [if_neg (by decide +kernel)]; exact ⟨rfl, rfl⟩)) stops.symm rfl stopKnobs.symm (by kernel_rfl)
    (by kernel_rfl) (by kernel_rfl) (by kernel_rfl) (by kernel_rfl) (by kernel_rfl) (by kernel_rfl) (by kernel_rfl) (by kernel_rfl) (by kernel_rfl) rfl (by kernel_rfl) rfl rfl
    rfl rfl
    rfl (by kernel_rfl) (by kernel_rfl) (by kernel_rfl) (by decide) (by kernel_rfl) fnVectorsCutAndValues_row_tie
    (OpenClaim.moreEntering_of (by kernel_rfl) (by kernel_rfl) (by kernel_rfl) (by kernel_rfl) (by kernel_rfl) (by kernel_rfl) (by kernel_rfl) (by kernel_rfl) (by kernel_rfl) (by kernel_rfl))
    ⟨_, WideRow.started_initial, quiet _⟩
    (fun os started _ H enc _ => lifted os started H enc)
#print axioms proved
end Go.Proofs.Qxb6616758aFmt.fnVectorsCutAndValues
