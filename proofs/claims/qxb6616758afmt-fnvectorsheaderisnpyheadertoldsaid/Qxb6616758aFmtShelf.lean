/-
  THE SHELF's CONTRACTS AT THIS DUMP, IN PLAIN WORDS (written by the kit's lay-shelf.mjs and lay-plain.mjs for this program).
-/
import Derived.Shelf.Strings.OnBuilder
import Derived.Shelf.LaysM
import Derived.Shelf.Strconv.Itoa3
import Derived.Shelf.Bytes.Bytes
import Derived.Ground.MnProg
import Derived.Shelf.Bin.LEPutUint16
import Derived.Shelf.Bin.LEPutUint32
import Derived.Shelf.Bytes.BufferK
import Derived.Shelf.Bytes.WriteAny
import Derived.Shelf.Strings.Repeat
import Derived.Test.Qxb6616758aFmtProg
import Derived.Test.Qxb6616758aFmtRows
namespace Go.Proofs
open Go.Shelf
/-- The name of the table that strconv.Itoa reads, off the given row. -/
abbrev Tryf.tabName : String := match Qxb6616758aFmt.Rows.fnNpyHeaderDescrWindowRow.named with | _ :: s :: _ => s | _ => ""
def Tryf.lays156_ren : Go.Shelf.Ren := ⟨fun | 156 => 19 | 165 => 30 | 166 => 31 | 169 => 32 | 240 => 39 | 241 => 40 | 276 => 48 | 277 => 49 | n => n, fun | 31 => 27 | 9 => 9 | 3 => 3 | 4 => 4 | 0 => 0 | 20 => 20 | 72 => 76 | 76 => 65 | 70 => 74 | 37 => 24 | 75 => 49 | 127 => 91 | 164 => 101 | 5 => 5 | 80 => 79 | n => n, fun | n => n⟩
theorem Tryf.lays156 : Go.Proofs.Lays.n156 Tryf.prog Tryf.lays156_ren := {
  mixed := by kernel_rfl
  f156 := Tryf.func19.trans (congrArg some (by kernel_rfl))
  f165 := Tryf.func30.trans (congrArg some (by kernel_rfl))
  f166 := Tryf.func31.trans (congrArg some (by kernel_rfl))
  f169 := Tryf.func32.trans (congrArg some (by kernel_rfl))
  f240 := Tryf.func39.trans (congrArg some (by kernel_rfl))
  f241 := Tryf.func40.trans (congrArg some (by kernel_rfl))
  f276 := Tryf.func48.trans (congrArg some (by kernel_rfl))
  f277 := Tryf.func49.trans (congrArg some (by kernel_rfl))
  t0 := Tryf.underlying0
  a0 := Tryf.isAgg0
  z0 := Tryf.sizeOf0
  v0 := Tryf.zeroValue0
  t3 := Tryf.underlying3
  a3 := Tryf.isAgg3
  z3 := Tryf.sizeOf3
  v3 := Tryf.zeroValue3
  t4 := Tryf.underlying4
  a4 := Tryf.isAgg4
  z4 := Tryf.sizeOf4
  v4 := Tryf.zeroValue4
  t9 := Tryf.underlying9
  a9 := Tryf.isAgg9
  z9 := Tryf.sizeOf9
  v9 := Tryf.zeroValue9
  t20 := Tryf.underlying20
  a20 := Tryf.isAgg20
  z20 := Tryf.sizeOf20
  v20 := Tryf.zeroValue20
  t31 := Tryf.underlying27
  a31 := Tryf.isAgg27
  z31 := Tryf.sizeOf27
  v31 := Tryf.zeroValue27
  t37 := Tryf.underlying24
  a37 := Tryf.isAgg24
  z37 := Tryf.sizeOf24
  v37 := Tryf.zeroValue24
  t70 := Tryf.underlying74
  a70 := Tryf.isAgg74
  z70 := Tryf.sizeOf74
  v70 := Tryf.zeroValue74
  t72 := Tryf.underlying76
  a72 := Tryf.isAgg76
  z72 := Tryf.sizeOf76
  v72 := Tryf.zeroValue76
  t75 := Tryf.underlying49
  a75 := Tryf.isAgg49
  z75 := Tryf.sizeOf49
  v75 := Tryf.zeroValue49
  t76 := Tryf.underlying65
  a76 := Tryf.isAgg65
  z76 := Tryf.sizeOf65
  v76 := Tryf.zeroValue65
  t127 := Tryf.underlying91
  a127 := Tryf.isAgg91
  z127 := Tryf.sizeOf91
  v127 := Tryf.zeroValue91
  t164 := Tryf.underlying101
  a164 := Tryf.isAgg101
  z164 := Tryf.sizeOf101
  v164 := Tryf.zeroValue101 }
theorem Tryf.Builder_Extra_156 : Builder.Extra Tryf.prog Tryf.lays156_ren := {
  sizeBuilder := by kernel_rfl
  liesBuilder := by kernel_rfl
  t5 := Tryf.underlying5
  a5 := Tryf.isAgg5
  z5 := Tryf.sizeOf5
  v5 := Tryf.zeroValue5
  infoByte := by kernel_rfl
  cellsByte := by kernel_rfl
  sizeByte := by kernel_rfl
  neB5 := by decide }
open Go.RowKit in
/-- No element: the empty string; the world is as it was. (Whatever the slice's address and capacity: a nil slice too.) (LAID: no walk: one application.) -/
theorem Tryf.strings_Join_none (a : Option Addr) (c : Nat) (sep : ByteArray) (w : World) :
    Calls Tryf.prog 19 #[.slice a 0 c, .string sep] w fun e w' => e = .returned (.string ⟨#[]⟩) ∧ w' = w := Any.strings_Join_none Tryf.lays156 Tryf.Builder_Extra_156 a c sep w
open Go.RowKit in
/-- strings.Join: 'Join concatenates the elements of its first argument to create a single string. The separator string sep is placed between elements in the resulting string.': HOWEVER MANY ELEMENTS. Below the heap's end the world is as it was. (LAID: no walk: one application.) -/
theorem Tryf.strings_Join (bk o c : Nat) (xs : List ByteArray) (sep : ByteArray) (w : World) (hcells : ∀ (j : Nat) x, xs[j]? = some x → w.cell? ⟨bk, o + j, none⟩ = some (.string x)) (hbk : bk < w.heap.size) (hN : xs.length ≤ 140737488355328) (hcap : xs.length ≤ c) (hlen : (Lib.join (xs.map (·.data.toList)) sep.data.toList).length ≤ 140737488355328) :
    Calls Tryf.prog 19 #[.slice (some ⟨bk, o, none⟩) xs.length c, .string sep] w fun e w' => e = .returned (.string ⟨(Lib.join (xs.map (·.data.toList)) sep.data.toList).toArray⟩) ∧ Below w.heap.size w w' := Any.strings_Join Tryf.lays156 Tryf.Builder_Extra_156 bk o c xs sep w hcells hbk hN hcap hlen
def Tryf.laysM171_ren : Go.Shelf.Ren := ⟨fun | 171 => 18 | 243 => 29 | 246 => 38 | 283 => 44 | 284 => 45 | 285 => 46 | 286 => 47 | 129 => 51 | 317 => 50 | 318 => 52 | 319 => 53 | 320 => 54 | 337 => 55 | 338 => 56 | n => n, fun | 3 => 3 | 9 => 9 | 2 => 2 | 4 => 4 | 171 => 54 | 0 => 0 | 53 => 94 | 37 => 24 | 5 => 5 | 173 => 99 | 212 => 106 | 51 => 52 | 20 => 20 | 213 => 107 | 46 => 51 | 232 => 111 | 233 => 112 | n => n, fun | 17 => 3 | 18 => 5 | 19 => 6 | n => n⟩
theorem Tryf.laysM171 : Go.Proofs.LaysM.n171 Tryf.prog Tryf.laysM171_ren := {
  mixed := by kernel_rfl
  f129 := Tryf.func51.trans (congrArg some (by kernel_rfl))
  f171 := Tryf.func18.trans (congrArg some (by kernel_rfl))
  f243 := Tryf.func29.trans (congrArg some (by kernel_rfl))
  f246 := Tryf.func38.trans (congrArg some (by kernel_rfl))
  f283 := Tryf.func44.trans (congrArg some (by kernel_rfl))
  f284 := Tryf.func45.trans (congrArg some (by kernel_rfl))
  f285 := Tryf.func46.trans (congrArg some (by kernel_rfl))
  f286 := Tryf.func47.trans (congrArg some (by kernel_rfl))
  f317 := Tryf.func50.trans (congrArg some (by kernel_rfl))
  f318 := Tryf.func52.trans (congrArg some (by kernel_rfl))
  f319 := Tryf.func53.trans (congrArg some (by kernel_rfl))
  f320 := Tryf.func54.trans (congrArg some (by kernel_rfl))
  f337 := Tryf.func55.trans (congrArg some (by kernel_rfl))
  f338 := Tryf.func56.trans (congrArg some (by kernel_rfl))
  t0 := Tryf.underlying0
  a0 := Tryf.isAgg0
  z0 := Tryf.sizeOf0
  v0 := Tryf.zeroValue0
  t2 := Tryf.underlying2
  a2 := Tryf.isAgg2
  z2 := Tryf.sizeOf2
  v2 := Tryf.zeroValue2
  t3 := Tryf.underlying3
  a3 := Tryf.isAgg3
  z3 := Tryf.sizeOf3
  v3 := Tryf.zeroValue3
  t4 := Tryf.underlying4
  a4 := Tryf.isAgg4
  z4 := Tryf.sizeOf4
  v4 := Tryf.zeroValue4
  t5 := Tryf.underlying5
  a5 := Tryf.isAgg5
  z5 := Tryf.sizeOf5
  v5 := Tryf.zeroValue5
  t9 := Tryf.underlying9
  a9 := Tryf.isAgg9
  z9 := Tryf.sizeOf9
  v9 := Tryf.zeroValue9
  t20 := Tryf.underlying20
  a20 := Tryf.isAgg20
  z20 := Tryf.sizeOf20
  v20 := Tryf.zeroValue20
  t37 := Tryf.underlying24
  a37 := Tryf.isAgg24
  z37 := Tryf.sizeOf24
  v37 := Tryf.zeroValue24
  t46 := Tryf.underlying51
  a46 := Tryf.isAgg51
  z46 := Tryf.sizeOf51
  v46 := Tryf.zeroValue51
  t51 := Tryf.underlying52
  a51 := Tryf.isAgg52
  z51 := Tryf.sizeOf52
  v51 := Tryf.zeroValue52
  t53 := Tryf.underlying94
  a53 := Tryf.isAgg94
  z53 := Tryf.sizeOf94
  v53 := Tryf.zeroValue94
  t171 := Tryf.underlying54
  a171 := Tryf.isAgg54
  z171 := Tryf.sizeOf54
  v171 := Tryf.zeroValue54
  t173 := Tryf.underlying99
  a173 := Tryf.isAgg99
  z173 := Tryf.sizeOf99
  v173 := Tryf.zeroValue99
  t212 := Tryf.underlying106
  a212 := Tryf.isAgg106
  z212 := Tryf.sizeOf106
  v212 := Tryf.zeroValue106
  t213 := Tryf.underlying107
  a213 := Tryf.isAgg107
  z213 := Tryf.sizeOf107
  t232 := Tryf.underlying111
  a232 := Tryf.isAgg111
  z232 := Tryf.sizeOf111
  v232 := Tryf.zeroValue111
  t233 := Tryf.underlying112
  a233 := Tryf.isAgg112
  z233 := Tryf.sizeOf112
  v233 := Tryf.zeroValue112
  g17 := by kernel_rfl
  g18 := by kernel_rfl
  g19 := by kernel_rfl
  i0 := by kernel_rfl
  i2 := by kernel_rfl
  i3 := by kernel_rfl
  i4 := by kernel_rfl
  i5 := by kernel_rfl
  i9 := by kernel_rfl
  i20 := by kernel_rfl
  i37 := by kernel_rfl
  i46 := by kernel_rfl
  i51 := by kernel_rfl
  i53 := by kernel_rfl
  i171 := by kernel_rfl
  i173 := by kernel_rfl
  i212 := by kernel_rfl
  i232 := by kernel_rfl
  i233 := by kernel_rfl
  m17 := by kernel_rfl
  m18 := by kernel_rfl
  m19 := by kernel_rfl }
open Go.RowKit Go.Sort Go.Lib in
/-- strconv.Itoa: 'Itoa is equivalent to FormatInt(int64(i), 10).': i's DECIMAL NUMERAL ('Lib.itoa': a '-' where i is negative, then the digits), FOR EVERY int. The world behind the call: the world before it, new blocks behind the heap (the library's 'var a [24]byte'), draws. (LAID: no walk: one application.) -/
theorem Tryf.strconv_Itoa (n : Int) (h0 : -9223372036854775808 ≤ n) (h1 : n ≤ 9223372036854775807) (w : World) (htab : Lib.TabIs Tryf.prog w Tryf.tabName .u64 Lib.pow10Tab) :
    Calls Tryf.prog 18 #[.int .i64 n] w fun e w' => e = .returned (.string ⟨(Lib.itoa n).toArray⟩) ∧ ∃ k os, w' = grow (w.drewN k) os := Any.strconv_Itoa Tryf.laysM171 n h0 h1 w htab
def Tryf.laysM183_ren : Go.Shelf.Ren := ⟨fun | 183 => 16 | n => n, fun | 130 => 43 | 37 => 24 | 0 => 0 | 93 => 41 | 3 => 3 | 5 => 5 | 91 => 39 | n => n, fun | n => n⟩
theorem Tryf.laysM183 : Go.Proofs.LaysM.n183 Tryf.prog Tryf.laysM183_ren := {
  mixed := by kernel_rfl
  f183 := Tryf.func16.trans (congrArg some (by kernel_rfl))
  t0 := Tryf.underlying0
  a0 := Tryf.isAgg0
  z0 := Tryf.sizeOf0
  v0 := Tryf.zeroValue0
  t3 := Tryf.underlying3
  a3 := Tryf.isAgg3
  z3 := Tryf.sizeOf3
  v3 := Tryf.zeroValue3
  t37 := Tryf.underlying24
  a37 := Tryf.isAgg24
  z37 := Tryf.sizeOf24
  v37 := Tryf.zeroValue24
  t93 := Tryf.underlying41
  a93 := Tryf.isAgg41
  z93 := Tryf.sizeOf41
  v93 := Tryf.zeroValue41
  t130 := Tryf.underlying43
  a130 := Tryf.isAgg43
  z130 := Tryf.sizeOf43
  v130 := Tryf.zeroValue43
  t5 := Tryf.underlying5
  a5 := Tryf.isAgg5
  z5 := Tryf.sizeOf5
  v5 := Tryf.zeroValue5
  t91 := Tryf.underlying39
  a91 := Tryf.isAgg39
  z91 := Tryf.sizeOf39
  v91 := Tryf.zeroValue39
  i0 := by kernel_rfl
  i3 := by kernel_rfl
  i5 := by kernel_rfl
  i37 := by kernel_rfl
  i91 := by kernel_rfl
  i93 := by kernel_rfl
  i130 := by kernel_rfl }
open Go.RowKit in
/-- (*bytes.Buffer).Bytes: 'Bytes returns a slice of length b.Len() holding the unread portion of the buffer. .. The slice aliases the buffer content at least until the next buffer modification': A SLICE THAT OWNS THE CELLS bs ('World.ownsRow': nil where nothing was ever written). The world is as it was but for the count of draws. (LAID: no walk: one application.) -/
theorem Tryf.Buffer_Bytes (B b : Nat) (bs : List Value) (w : World) (h : Lib.IsBuffer 41 5 B b bs w) :
    Calls Tryf.prog 16 #[.pointer (some ⟨b, 0, none⟩)] w fun e w' => ∃ v, e = .returned v ∧ w'.ownsRow B 5 1 v bs.length bs ∧ ∃ n, w' = w.drewN n := Any.Buffer_Bytes Tryf.laysM183 B b bs w h
def Tryf.laysBin28_ren : Go.Shelf.Ren := ⟨fun | 28 => 22 | n => n, fun | 25 => 62 | 22 => 24 | 23 => 64 | 0 => 0 | 5 => 5 | 45 => 51 | n => n, fun | n => n⟩
theorem Tryf.laysBin28 : Go.Proofs.LaysBin.n28 Tryf.prog Tryf.laysBin28_ren := {
  mixed := by kernel_rfl
  f28 := Tryf.func22.trans (congrArg some (by kernel_rfl))
  t0 := Tryf.underlying0
  a0 := Tryf.isAgg0
  z0 := Tryf.sizeOf0
  v0 := Tryf.zeroValue0
  i0 := by kernel_rfl
  t5 := Tryf.underlying5
  a5 := Tryf.isAgg5
  z5 := Tryf.sizeOf5
  v5 := Tryf.zeroValue5
  i5 := by kernel_rfl
  t22 := Tryf.underlying24
  a22 := Tryf.isAgg24
  z22 := Tryf.sizeOf24
  v22 := Tryf.zeroValue24
  i22 := by kernel_rfl
  t23 := Tryf.underlying64
  a23 := Tryf.isAgg64
  z23 := Tryf.sizeOf64
  v23 := Tryf.zeroValue64
  i23 := by kernel_rfl
  t25 := Tryf.underlying62
  a25 := Tryf.isAgg62
  z25 := Tryf.sizeOf62
  v25 := Tryf.zeroValue62
  i25 := by kernel_rfl
  t45 := Tryf.underlying51
  a45 := Tryf.isAgg51
  z45 := Tryf.sizeOf51
  v45 := Tryf.zeroValue51
  i45 := by kernel_rfl }
open Go.RowKit in
/-- binary.LittleEndian.PutUint16: 'PutUint16 stores v into b[0:2].': v's 2 BYTES, the least first ('Lib.leBytes 2 v'), ARE LAID IN THE SLICE's FIRST 2 CELLS ('World.setCells'); nothing else turns (the receiver, an empty struct, is laid in a new block without cells). (LAID: no walk: one application.) -/
theorem Tryf.binary_LE_PutUint16 (g o n c v : Nat) (hv : v < 65536) (x0 x1 : Value) (w : World) (hn : 2 ≤ n) (c0 : w.cell? ⟨g, o, none⟩ = some x0) (c1 : w.cell? ⟨g, o + 1, none⟩ = some x1) (f0 : w.frozen? ⟨g, o, none⟩ = false) (f1 : w.frozen? ⟨g, o + 1, none⟩ = false) :
    Calls Tryf.prog 22 #[.agg #[], .slice (some ⟨g, o, none⟩) n c, .int .u16 v] w fun e w' => e = .returned (.tuple #[]) ∧ w' = (w.alloc (.cells #[] 62)).setCells g o (Lib.byteCells (Lib.leBytes 2 v)) := Any.binary_LE_PutUint16 Tryf.laysBin28 g o n c v hv x0 x1 w hn c0 c1 f0 f1
def Tryf.laysBin31_ren : Go.Shelf.Ren := ⟨fun | 31 => 25 | n => n, fun | 25 => 62 | 22 => 24 | 29 => 52 | 0 => 0 | 5 => 5 | 45 => 51 | n => n, fun | n => n⟩
theorem Tryf.laysBin31 : Go.Proofs.LaysBin.n31 Tryf.prog Tryf.laysBin31_ren := {
  mixed := by kernel_rfl
  f31 := Tryf.func25.trans (congrArg some (by kernel_rfl))
  t0 := Tryf.underlying0
  a0 := Tryf.isAgg0
  z0 := Tryf.sizeOf0
  v0 := Tryf.zeroValue0
  i0 := by kernel_rfl
  t5 := Tryf.underlying5
  a5 := Tryf.isAgg5
  z5 := Tryf.sizeOf5
  v5 := Tryf.zeroValue5
  i5 := by kernel_rfl
  t22 := Tryf.underlying24
  a22 := Tryf.isAgg24
  z22 := Tryf.sizeOf24
  v22 := Tryf.zeroValue24
  i22 := by kernel_rfl
  t25 := Tryf.underlying62
  a25 := Tryf.isAgg62
  z25 := Tryf.sizeOf62
  v25 := Tryf.zeroValue62
  i25 := by kernel_rfl
  t29 := Tryf.underlying52
  a29 := Tryf.isAgg52
  z29 := Tryf.sizeOf52
  v29 := Tryf.zeroValue52
  i29 := by kernel_rfl
  t45 := Tryf.underlying51
  a45 := Tryf.isAgg51
  z45 := Tryf.sizeOf51
  v45 := Tryf.zeroValue51
  i45 := by kernel_rfl }
open Go.RowKit in
/-- binary.LittleEndian.PutUint32: 'PutUint32 stores v into b[0:4].': v's 4 BYTES, the least first ('Lib.leBytes 4 v'), ARE LAID IN THE SLICE's FIRST 4 CELLS ('World.setCells'); nothing else turns (the receiver, an empty struct, is laid in a new block without cells). (LAID: no walk: one application.) -/
theorem Tryf.binary_LE_PutUint32 (g o n c v : Nat) (hv : v < 4294967296) (x0 x1 x2 x3 : Value) (w : World) (hn : 4 ≤ n) (c0 : w.cell? ⟨g, o, none⟩ = some x0) (c1 : w.cell? ⟨g, o + 1, none⟩ = some x1) (c2 : w.cell? ⟨g, o + 2, none⟩ = some x2) (c3 : w.cell? ⟨g, o + 3, none⟩ = some x3) (f0 : w.frozen? ⟨g, o, none⟩ = false) (f1 : w.frozen? ⟨g, o + 1, none⟩ = false) (f2 : w.frozen? ⟨g, o + 2, none⟩ = false) (f3 : w.frozen? ⟨g, o + 3, none⟩ = false) :
    Calls Tryf.prog 25 #[.agg #[], .slice (some ⟨g, o, none⟩) n c, .int .u32 v] w fun e w' => e = .returned (.tuple #[]) ∧ w' = (w.alloc (.cells #[] 62)).setCells g o (Lib.byteCells (Lib.leBytes 4 v)) := Any.binary_LE_PutUint32 Tryf.laysBin31 g o n c v hv x0 x1 x2 x3 w hn c0 c1 c2 c3 f0 f1 f2 f3
def Tryf.laysM178_ren : Go.Shelf.Ren := ⟨fun | 178 => 75 | 251 => 76 | 252 => 77 | 181 => 78 | 184 => 72 | 290 => 79 | 324 => 80 | n => n, fun | 130 => 43 | 9 => 9 | 3 => 3 | 75 => 49 | 0 => 0 | 93 => 41 | 91 => 39 | 131 => 128 | 4 => 4 | 37 => 24 | 20 => 20 | 80 => 79 | 5 => 5 | n => n, fun | 14 => 7 | n => n⟩
theorem Tryf.laysM178 : Go.Proofs.LaysM.n178 Tryf.prog Tryf.laysM178_ren := {
  mixed := by kernel_rfl
  f178 := Tryf.func75.trans (congrArg some (by kernel_rfl))
  f181 := Tryf.func78.trans (congrArg some (by kernel_rfl))
  f184 := Tryf.func72.trans (congrArg some (by kernel_rfl))
  f251 := Tryf.func76.trans (congrArg some (by kernel_rfl))
  f252 := Tryf.func77.trans (congrArg some (by kernel_rfl))
  f290 := Tryf.func79.trans (congrArg some (by kernel_rfl))
  f324 := Tryf.func80.trans (congrArg some (by kernel_rfl))
  t0 := Tryf.underlying0
  a0 := Tryf.isAgg0
  z0 := Tryf.sizeOf0
  v0 := Tryf.zeroValue0
  t3 := Tryf.underlying3
  a3 := Tryf.isAgg3
  z3 := Tryf.sizeOf3
  v3 := Tryf.zeroValue3
  t4 := Tryf.underlying4
  a4 := Tryf.isAgg4
  z4 := Tryf.sizeOf4
  v4 := Tryf.zeroValue4
  t9 := Tryf.underlying9
  a9 := Tryf.isAgg9
  z9 := Tryf.sizeOf9
  v9 := Tryf.zeroValue9
  t20 := Tryf.underlying20
  a20 := Tryf.isAgg20
  z20 := Tryf.sizeOf20
  v20 := Tryf.zeroValue20
  t37 := Tryf.underlying24
  a37 := Tryf.isAgg24
  z37 := Tryf.sizeOf24
  v37 := Tryf.zeroValue24
  t75 := Tryf.underlying49
  a75 := Tryf.isAgg49
  z75 := Tryf.sizeOf49
  v75 := Tryf.zeroValue49
  t91 := Tryf.underlying39
  a91 := Tryf.isAgg39
  z91 := Tryf.sizeOf39
  v91 := Tryf.zeroValue39
  t93 := Tryf.underlying41
  a93 := Tryf.isAgg41
  z93 := Tryf.sizeOf41
  v93 := Tryf.zeroValue41
  t130 := Tryf.underlying43
  a130 := Tryf.isAgg43
  z130 := Tryf.sizeOf43
  v130 := Tryf.zeroValue43
  t131 := Tryf.underlying128
  a131 := Tryf.isAgg128
  z131 := Tryf.sizeOf128
  v131 := Tryf.zeroValue128
  g14 := by kernel_rfl
  t5 := Tryf.underlying5
  a5 := Tryf.isAgg5
  z5 := Tryf.sizeOf5
  v5 := Tryf.zeroValue5
  t80 := Tryf.underlying79
  a80 := Tryf.isAgg79
  z80 := Tryf.sizeOf79
  v80 := Tryf.zeroValue79
  i0 := by kernel_rfl
  i3 := by kernel_rfl
  i4 := by kernel_rfl
  i5 := by kernel_rfl
  i9 := by kernel_rfl
  i20 := by kernel_rfl
  i37 := by kernel_rfl
  i75 := by kernel_rfl
  i80 := by kernel_rfl
  i91 := by kernel_rfl
  i93 := by kernel_rfl
  i130 := by kernel_rfl
  i131 := by kernel_rfl
  m14 := by kernel_rfl }
def Tryf.laysM180_ren : Go.Shelf.Ren := ⟨fun | 180 => 74 | 251 => 76 | 252 => 77 | 181 => 78 | 184 => 72 | 290 => 79 | 324 => 80 | n => n, fun | 130 => 43 | 37 => 24 | 3 => 3 | 75 => 49 | 0 => 0 | 93 => 41 | 91 => 39 | 131 => 128 | 4 => 4 | 20 => 20 | 5 => 5 | 80 => 79 | 9 => 9 | n => n, fun | 14 => 7 | n => n⟩
theorem Tryf.laysM180 : Go.Proofs.LaysM.n180 Tryf.prog Tryf.laysM180_ren := {
  mixed := by kernel_rfl
  f180 := Tryf.func74.trans (congrArg some (by kernel_rfl))
  f181 := Tryf.func78.trans (congrArg some (by kernel_rfl))
  f184 := Tryf.func72.trans (congrArg some (by kernel_rfl))
  f251 := Tryf.func76.trans (congrArg some (by kernel_rfl))
  f252 := Tryf.func77.trans (congrArg some (by kernel_rfl))
  f290 := Tryf.func79.trans (congrArg some (by kernel_rfl))
  f324 := Tryf.func80.trans (congrArg some (by kernel_rfl))
  t0 := Tryf.underlying0
  a0 := Tryf.isAgg0
  z0 := Tryf.sizeOf0
  v0 := Tryf.zeroValue0
  t3 := Tryf.underlying3
  a3 := Tryf.isAgg3
  z3 := Tryf.sizeOf3
  v3 := Tryf.zeroValue3
  t4 := Tryf.underlying4
  a4 := Tryf.isAgg4
  z4 := Tryf.sizeOf4
  v4 := Tryf.zeroValue4
  t20 := Tryf.underlying20
  a20 := Tryf.isAgg20
  z20 := Tryf.sizeOf20
  v20 := Tryf.zeroValue20
  t37 := Tryf.underlying24
  a37 := Tryf.isAgg24
  z37 := Tryf.sizeOf24
  v37 := Tryf.zeroValue24
  t75 := Tryf.underlying49
  a75 := Tryf.isAgg49
  z75 := Tryf.sizeOf49
  v75 := Tryf.zeroValue49
  t91 := Tryf.underlying39
  a91 := Tryf.isAgg39
  z91 := Tryf.sizeOf39
  v91 := Tryf.zeroValue39
  t93 := Tryf.underlying41
  a93 := Tryf.isAgg41
  z93 := Tryf.sizeOf41
  v93 := Tryf.zeroValue41
  t130 := Tryf.underlying43
  a130 := Tryf.isAgg43
  z130 := Tryf.sizeOf43
  v130 := Tryf.zeroValue43
  t131 := Tryf.underlying128
  a131 := Tryf.isAgg128
  z131 := Tryf.sizeOf128
  v131 := Tryf.zeroValue128
  g14 := by kernel_rfl
  t5 := Tryf.underlying5
  a5 := Tryf.isAgg5
  z5 := Tryf.sizeOf5
  v5 := Tryf.zeroValue5
  t9 := Tryf.underlying9
  a9 := Tryf.isAgg9
  z9 := Tryf.sizeOf9
  v9 := Tryf.zeroValue9
  t80 := Tryf.underlying79
  a80 := Tryf.isAgg79
  z80 := Tryf.sizeOf79
  v80 := Tryf.zeroValue79
  i0 := by kernel_rfl
  i3 := by kernel_rfl
  i4 := by kernel_rfl
  i5 := by kernel_rfl
  i9 := by kernel_rfl
  i20 := by kernel_rfl
  i37 := by kernel_rfl
  i75 := by kernel_rfl
  i80 := by kernel_rfl
  i91 := by kernel_rfl
  i93 := by kernel_rfl
  i130 := by kernel_rfl
  i131 := by kernel_rfl
  m14 := by kernel_rfl }
open Go.RowKit in
theorem Tryf.Buffer_WriteString_k (B b : Nat) (bs : List Value) (s : ByteArray) (w : World) (h : Lib.IsBuffer 41 5 B b bs w) (hBw : B ≤ w.heap.size) (h1 : ∀ v ∈ bs, v.oneCell' = true) (hlim : bs.length + s.size ≤ 140737488355328) :
    Calls Tryf.prog 75 #[.pointer (some ⟨b, 0, none⟩), .string s] w fun e w' => e = .returned (.tuple #[.int .i64 s.size, .nilIface]) ∧ Lib.IsBuffer 41 5 B b (bs ++ Lib.byteCells s.data.toList) w' ∧ Below B w w' ∧ Lib.OthersKept 5 (some b) w w' := Any.Buffer_WriteString_k Tryf.laysM178 B b bs s w h hBw h1 hlim
open Go.RowKit in
/-- (*bytes.Buffer).Write: 'Write appends the contents of p to the buffer, growing the buffer as needed. The return value n is the length of p; err is always nil.' (LAID: no walk: one application.) -/
theorem Tryf.Buffer_Write_any (B b : Nat) (bs cs : List Value) (a : Addr) (n c : Nat) (w : World) (h : Lib.IsBuffer 41 5 B b bs w) (hBw : B ≤ w.heap.size) (h1 : ∀ v ∈ bs, v.oneCell' = true) (hn : cs.length = n) (hab : a.block ≠ b) (hsrc : ∀ j v, cs[j]? = some v → w.cell? (a.add j) = some v) (h1c : ∀ v ∈ cs, v.oneCell' = true) (hlim : bs.length + n ≤ 140737488355328) :
    Calls Tryf.prog 74 #[.pointer (some ⟨b, 0, none⟩), .slice (some a) n c] w fun e w' => e = .returned (.tuple #[.int .i64 n, .nilIface]) ∧ Lib.IsBuffer 41 5 B b (bs ++ cs) w' ∧ Below B w w' ∧ Lib.OthersKept 5 (some b) w w' := Any.Buffer_Write_any Tryf.laysM180 B b bs cs a n c w h hBw h1 hn hab hsrc h1c hlim
def Tryf.lays105_ren : Go.Shelf.Ren := ⟨fun | 105 => 21 | 212 => 33 | 99 => 34 | 165 => 30 | 166 => 31 | 170 => 35 | 169 => 32 | 263 => 41 | 264 => 42 | 206 => 43 | 240 => 39 | 241 => 40 | 276 => 48 | 277 => 49 | n => n, fun | 9 => 9 | 3 => 3 | 4 => 4 | 20 => 20 | 0 => 0 | 46 => 51 | 109 => 80 | 5 => 5 | 72 => 76 | 76 => 65 | 51 => 52 | 146 => 92 | 53 => 94 | 148 => 95 | 70 => 74 | 37 => 24 | 75 => 49 | 127 => 91 | 164 => 101 | 80 => 79 | n => n, fun | n => n⟩
theorem Tryf.lays105 : Go.Proofs.Lays.n105 Tryf.prog Tryf.lays105_ren := {
  mixed := by kernel_rfl
  f99 := Tryf.func34.trans (congrArg some (by kernel_rfl))
  f105 := Tryf.func21.trans (congrArg some (by kernel_rfl))
  f165 := Tryf.func30.trans (congrArg some (by kernel_rfl))
  f166 := Tryf.func31.trans (congrArg some (by kernel_rfl))
  f169 := Tryf.func32.trans (congrArg some (by kernel_rfl))
  f170 := Tryf.func35.trans (congrArg some (by kernel_rfl))
  f206 := Tryf.func43.trans (congrArg some (by kernel_rfl))
  f212 := Tryf.func33.trans (congrArg some (by kernel_rfl))
  f240 := Tryf.func39.trans (congrArg some (by kernel_rfl))
  f241 := Tryf.func40.trans (congrArg some (by kernel_rfl))
  f263 := Tryf.func41.trans (congrArg some (by kernel_rfl))
  f264 := Tryf.func42.trans (congrArg some (by kernel_rfl))
  f276 := Tryf.func48.trans (congrArg some (by kernel_rfl))
  f277 := Tryf.func49.trans (congrArg some (by kernel_rfl))
  t0 := Tryf.underlying0
  a0 := Tryf.isAgg0
  z0 := Tryf.sizeOf0
  v0 := Tryf.zeroValue0
  t3 := Tryf.underlying3
  a3 := Tryf.isAgg3
  z3 := Tryf.sizeOf3
  v3 := Tryf.zeroValue3
  t4 := Tryf.underlying4
  a4 := Tryf.isAgg4
  z4 := Tryf.sizeOf4
  v4 := Tryf.zeroValue4
  t5 := Tryf.underlying5
  a5 := Tryf.isAgg5
  z5 := Tryf.sizeOf5
  v5 := Tryf.zeroValue5
  t9 := Tryf.underlying9
  a9 := Tryf.isAgg9
  z9 := Tryf.sizeOf9
  v9 := Tryf.zeroValue9
  t20 := Tryf.underlying20
  a20 := Tryf.isAgg20
  z20 := Tryf.sizeOf20
  v20 := Tryf.zeroValue20
  t37 := Tryf.underlying24
  a37 := Tryf.isAgg24
  z37 := Tryf.sizeOf24
  v37 := Tryf.zeroValue24
  t46 := Tryf.underlying51
  a46 := Tryf.isAgg51
  z46 := Tryf.sizeOf51
  v46 := Tryf.zeroValue51
  t51 := Tryf.underlying52
  a51 := Tryf.isAgg52
  z51 := Tryf.sizeOf52
  v51 := Tryf.zeroValue52
  t53 := Tryf.underlying94
  a53 := Tryf.isAgg94
  z53 := Tryf.sizeOf94
  v53 := Tryf.zeroValue94
  t70 := Tryf.underlying74
  a70 := Tryf.isAgg74
  z70 := Tryf.sizeOf74
  v70 := Tryf.zeroValue74
  t72 := Tryf.underlying76
  a72 := Tryf.isAgg76
  z72 := Tryf.sizeOf76
  v72 := Tryf.zeroValue76
  t75 := Tryf.underlying49
  a75 := Tryf.isAgg49
  z75 := Tryf.sizeOf49
  v75 := Tryf.zeroValue49
  t76 := Tryf.underlying65
  a76 := Tryf.isAgg65
  z76 := Tryf.sizeOf65
  v76 := Tryf.zeroValue65
  t109 := Tryf.underlying80
  a109 := Tryf.isAgg80
  z109 := Tryf.sizeOf80
  v109 := Tryf.zeroValue80
  t127 := Tryf.underlying91
  a127 := Tryf.isAgg91
  z127 := Tryf.sizeOf91
  v127 := Tryf.zeroValue91
  t146 := Tryf.underlying92
  a146 := Tryf.isAgg92
  z146 := Tryf.sizeOf92
  v146 := Tryf.zeroValue92
  t148 := Tryf.underlying95
  a148 := Tryf.isAgg95
  z148 := Tryf.sizeOf95
  v148 := Tryf.zeroValue95
  t164 := Tryf.underlying101
  a164 := Tryf.isAgg101
  z164 := Tryf.sizeOf101
  v164 := Tryf.zeroValue101 }
theorem Tryf.Builder_Extra_105 : Builder.Extra Tryf.prog Tryf.lays105_ren := {
  sizeBuilder := by kernel_rfl
  liesBuilder := by kernel_rfl
  t5 := Tryf.underlying5
  a5 := Tryf.isAgg5
  z5 := Tryf.sizeOf5
  v5 := Tryf.zeroValue5
  infoByte := by kernel_rfl
  cellsByte := by kernel_rfl
  sizeByte := by kernel_rfl
  neB5 := by decide }
open Go.RowKit Go.Lib in
/-- **strings.Repeat: count ≥ 0, the result within one allocation: count copies of s.** (LAID: no walk: one application.) -/
theorem Tryf.strings_Repeat (s : ByteArray) (c : Nat) (w : World) (hc : c ≤ 9223372036854775807) (hlen : s.size * c ≤ 140737488355328) :
    Calls Tryf.prog 21 #[.string s, .int .i64 c] w fun e w' => e = .returned (.string ⟨(Lib.repeatL s.data.toList c).toArray⟩) ∧ Below w.heap.size w w' := Any.strings_Repeat Tryf.lays105 Tryf.Builder_Extra_105 s c w hc hlen
end Go.Proofs
