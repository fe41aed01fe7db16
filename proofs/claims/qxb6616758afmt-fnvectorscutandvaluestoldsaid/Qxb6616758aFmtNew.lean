import Derived.Test.Qxb6616758aFmtPut2
namespace Go.Proofs.Qxb6616758aFmt
open Go.RowKit Go.Stop

theorem as68 (v : Value) (w : World) : (Instr.typeAssert (.iface 43 v) 56 68 true).run Tryf.prog w = .ok (.tuple #[.pointer none, .bool false]) w := by kernel_rfl

theorem isSW68 (v : Value) (xT : TypeId) (w : World) : (Instr.typeAssert (.iface 68 v) xT 85 true).run Tryf.prog w = .ok (.tuple #[.iface 68 v, .bool true]) w :=
  run_typeAssert_hasB Tryf.underlying85 (by kernel_rfl) v xT w
theorem meth68s (v : Value) (w : World) : (method 242 68 v "WriteString").run Tryf.prog w = .ok (84, v) w := by kernel_rfl
theorem nil68w (a : Addr) (w : World) : (nilAhead 242 68 (.pointer (some a)) "Write").run Tryf.prog w = .ok (some false) w := by kernel_rfl
theorem meth68w (v : Value) (w : World) : (method 242 68 v "Write").run Tryf.prog w = .ok (27, v) w := by kernel_rfl

theorem Tryf.info5 : (Tryf.prog.info? 5).map (fun i => (i.zero, i.size, i.bytes)) = some (some (.int .u8 0), 1, 1) := by kernel_rfl

theorem fresh_bw (b : Nat) (M : Array Value) (w : World) (hM : M.size = 65536) (hB : Lib.IsBuffer 41 5 b b [] w) (hnil : ∃ lr, w.heap[b]? = some (.cells #[.slice none 0 0, .int .i64 0, .int .i8 lr] 41 (0, 0))) (n : Nat) (hn : n = w.heap.size + 1) :
    BW b n w.heap.size b [] [] ((w.alloc (.cells M 5)).alloc (.cells #[.nilIface, .slice (some ⟨w.heap.size, 0, none⟩) 65536 65536, .int .i64 0, .iface 43 (.pointer (some ⟨b, 0, none⟩))] 89)) := by
  subst hn
  obtain ⟨lr, hb⟩ := hnil
  have hlt := lt_of_block hb
  have hb1 : Below w.heap.size w ((w.alloc (.cells M 5)).alloc (.cells #[.nilIface, .slice (some ⟨w.heap.size, 0, none⟩) 65536 65536, .int .i64 0, .iface 43 (.pointer (some ⟨b, 0, none⟩))] 89)) :=
    ((Below.refl _ _).alloc (Nat.le_refl _) _).alloc (by simp) _
  have hbb := (hb1.block b hlt).trans hb
  refine ⟨?_, ⟨M, ?_, hM, by simp⟩, by simp, buf_below hB hb1, ?_, by omega, by omega, by simp; omega, by omega, by omega, by simp, by simp⟩
  · unfold BwBlock
    have := heap_alloc_new (w.alloc (.cells M 5)) (.cells #[.nilIface, .slice (some ⟨w.heap.size, 0, none⟩) 65536 65536, .int .i64 0, .iface 43 (.pointer (some ⟨b, 0, none⟩))] 89)
    simpa using this
  · rw [Below.heap_alloc _ _ _ (by simp)]
    exact heap_alloc_new w _
  · intro g l c x y T fz hx
    rw [hbb] at hx
    injection hx with hx
    injection hx with hx
    simp at hx

set_option maxHeartbeats 800000 in
set_option maxRecDepth 100000 in
theorem new_any (b : Nat) (w : World) (hB : Lib.IsBuffer 41 5 b b [] w) (hnil : ∃ lr, w.heap[b]? = some (.cells #[.slice none 0 0, .int .i64 0, .int .i8 lr] 41 (0, 0))) :
    Calls Tryf.prog 24 #[.iface 43 (.pointer (some ⟨b, 0, none⟩)), .int .i64 65536] w fun e w' => ∃ bw r, e = .returned (.pointer (some ⟨bw, 0, none⟩)) ∧ BW b bw r b [] [] w' ∧ Begun b [] w' ∧ Below w.heap.size w w' ∧ w.heap.size ≤ bw := by
  obtain ⟨i0, hi, hz0, hz1, hz2⟩ := info_parts Tryf.info5
  obtain ⟨M, hM⟩ : ∃ M, M = madeCells (Value.int .u8 0).cells ((65536 : Int).toNat * i0.size) := ⟨_, rfl⟩
  have hMs : M.size = 65536 := by rw [hM, size_madeCells, hz1]; rfl
  have hmk : ∀ W : World, (Instr.makeSlice 24 (.int .i64 65536) (.int .i64 65536)).run Tryf.prog W = .ok (.slice (some ⟨W.heap.size, 0, none⟩) 65536 65536) (W.alloc (.cells M 5)) := fun W => by
    have h := run_makeSlice (P := Tryf.prog) W 24 5 i0 (.int .u8 0) Tryf.underlying24 hi hz0 .i64 .i64 65536 65536 (by omega) (by omega) (by rw [hz1]; decide) (by rw [hz2]; decide) (by decide)
    rw [← hM] at h
    simpa using h
  have has := as68
  have hb1 : ∀ o, Below w.heap.size w ((w.alloc (.cells M 5)).alloc o) := fun o => ((Below.refl _ _).alloc (Nat.le_refl _) _).alloc (by simp) _
  clear hM
  go_enter Tryf.func24, Tryf.ntmps24
  go_wp2_with fail
  go_ret
  refine ⟨_, _, rfl, fresh_bw b M w hMs hB hnil _ (by simp), ?_, hb1 _, by simp⟩
  obtain ⟨lr, hb⟩ := hnil
  exact .inl ⟨rfl, lr, ((hb1 _).block b (lt_of_block hb)).trans hb⟩

set_option maxHeartbeats 400000 in
set_option maxRecDepth 100000 in
/-- io.WriteString onto the bufio.Writer. -/
theorem wrs68 (B bw r b : Nat) (fl pd : List Value) (s : ByteArray) (w : World) (h : BW B bw r b fl pd w) (hbg : Begun b fl w) (hfit : pd.length + s.size ≤ 65536) (hlt : pd.length < 65536) :
    Calls Tryf.prog 23 #[.iface 68 (.pointer (some ⟨bw, 0, none⟩)), .string s] w fun e w' => e = .returned (.tuple #[.int .i64 s.size, .nilIface]) ∧ BW B bw r b fl (pd ++ Lib.byteCells s.data.toList) w' ∧ Fr B bw b w w' ∧ Begun b fl w' := by
  have has := isSW68
  have hm := meth68s
  go_enter Tryf.func23, Tryf.ntmps23
  go_wp2_with (go_at_call 84; refine (bws_any B bw r b fl pd s _ h hbg hfit hlt).mono ?_; rintro e w' ⟨rfl, h2, b2, k2⟩)
  go_ret2
  exact ⟨rfl, ‹_›, ‹_›, ‹_›⟩

end Go.Proofs.Qxb6616758aFmt
