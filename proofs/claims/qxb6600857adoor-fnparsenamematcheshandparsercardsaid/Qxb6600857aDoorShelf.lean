/-
  The shelf's contracts of strings.CutPrefix (15) and of strconv's two makers of errors (22, 23) at this dump, in plain words (lay-shelf, lay-plain; cut to what is used; the remarks struck).
-/
import Derived.Shelf.Small.Wraps
import Derived.Shelf.LaysM
import Derived.Shelf.Strconv.SyntaxError
import Derived.Shelf.Strconv.RangeError
import Derived.Test.Qxb6600857aDoorProg
namespace Go.Proofs
open Go.Shelf
def Tryd.lays103_ren : Go.Shelf.Ren := ⟨fun | 103 => 15 | 210 => 17 | 206 => 20 | n => n, fun | 9 => 9 | 4 => 4 | 24 => 35 | 3 => 3 | n => n, fun | n => n⟩
theorem Tryd.lays103 : Go.Proofs.Lays.n103 Tryd.prog Tryd.lays103_ren := {
  mixed := by kernel_rfl
  f103 := Tryd.func15.trans (congrArg some (by kernel_rfl))
  f206 := Tryd.func20.trans (congrArg some (by kernel_rfl))
  f210 := Tryd.func17.trans (congrArg some (by kernel_rfl))
  t3 := Tryd.underlying3
  a3 := Tryd.isAgg3
  z3 := Tryd.sizeOf3
  v3 := Tryd.zeroValue3
  t4 := Tryd.underlying4
  a4 := Tryd.isAgg4
  z4 := Tryd.sizeOf4
  v4 := Tryd.zeroValue4
  t9 := Tryd.underlying9
  a9 := Tryd.isAgg9
  z9 := Tryd.sizeOf9
  v9 := Tryd.zeroValue9
  t24 := Tryd.underlying35
  a24 := Tryd.isAgg35
  z24 := Tryd.sizeOf35
  v24 := Tryd.zeroValue35 }
open Go.RowKit in
theorem Tryd.strings_CutPrefix (s p : ByteArray) (w : World) :
    Calls Tryd.prog 15 #[.string s, .string p] w fun e w' => e = .returned (.tuple #[.string ⟨(Lib.trimPrefix s.data.toList p.data.toList).toArray⟩, .bool (Lib.hasPrefix s.data.toList p.data.toList)]) ∧ w' = w := Any.strings_CutPrefix Tryd.lays103 s p w
def Tryd.laysM279_ren : Go.Shelf.Ren := ⟨fun | 279 => 22 | 316 => 28 | n => n, fun | 9 => 9 | 168 => 45 | 75 => 38 | 210 => 51 | 3 => 3 | 4 => 4 | 37 => 34 | 0 => 0 | 127 => 54 | 80 => 76 | 5 => 5 | n => n, fun | 15 => 0 | n => n⟩
theorem Tryd.laysM279 : Go.Proofs.LaysM.n279 Tryd.prog Tryd.laysM279_ren := {
  mixed := by kernel_rfl
  f279 := Tryd.func22.trans (congrArg some (by kernel_rfl))
  f316 := Tryd.func28.trans (congrArg some (by kernel_rfl))
  t0 := Tryd.underlying0
  a0 := Tryd.isAgg0
  z0 := Tryd.sizeOf0
  v0 := Tryd.zeroValue0
  t3 := Tryd.underlying3
  a3 := Tryd.isAgg3
  z3 := Tryd.sizeOf3
  v3 := Tryd.zeroValue3
  t4 := Tryd.underlying4
  a4 := Tryd.isAgg4
  z4 := Tryd.sizeOf4
  v4 := Tryd.zeroValue4
  t9 := Tryd.underlying9
  a9 := Tryd.isAgg9
  z9 := Tryd.sizeOf9
  v9 := Tryd.zeroValue9
  t37 := Tryd.underlying34
  a37 := Tryd.isAgg34
  z37 := Tryd.sizeOf34
  v37 := Tryd.zeroValue34
  t75 := Tryd.underlying38
  a75 := Tryd.isAgg38
  z75 := Tryd.sizeOf38
  v75 := Tryd.zeroValue38
  t127 := Tryd.underlying54
  a127 := Tryd.isAgg54
  z127 := Tryd.sizeOf54
  v127 := Tryd.zeroValue54
  t168 := Tryd.underlying45
  a168 := Tryd.isAgg45
  z168 := Tryd.sizeOf45
  v168 := Tryd.zeroValue45
  t210 := Tryd.underlying51
  a210 := Tryd.isAgg51
  z210 := Tryd.sizeOf51
  v210 := Tryd.zeroValue51
  g15 := by kernel_rfl
  t5 := Tryd.underlying5
  a5 := Tryd.isAgg5
  z5 := Tryd.sizeOf5
  v5 := Tryd.zeroValue5
  t80 := Tryd.underlying76
  a80 := Tryd.isAgg76
  z80 := Tryd.sizeOf76
  v80 := Tryd.zeroValue76
  i0 := by kernel_rfl
  i3 := by kernel_rfl
  i4 := by kernel_rfl
  i5 := by kernel_rfl
  i9 := by kernel_rfl
  i37 := by kernel_rfl
  i75 := by kernel_rfl
  i80 := by kernel_rfl
  i127 := by kernel_rfl
  i168 := by kernel_rfl
  i210 := by kernel_rfl
  m15 := by kernel_rfl }
open Go.RowKit in
theorem Tryd.strconv_syntaxError (fn s : ByteArray) (ev : Value) (w : World) (hlim : s.size ≤ 281474976710656) (hv : w.cell? ⟨0, 0, none⟩ = some ev) (hev : ev = .nilIface ∨ ∃ te pe, ev = .iface te pe) :
    Calls Tryd.prog 22 #[.string fn, .string s] w fun e w' => ∃ N, e = .returned (.pointer (some ⟨N, 0, none⟩)) ∧ w.heap.size ≤ N ∧ w'.heap[N]? = some (.cells #[.string fn, .string s, ev] 51 (0, 0)) ∧ Below w.heap.size w w' := Any.strconv_syntaxError Tryd.laysM279 fn s ev w hlim hv hev
def Tryd.laysM280_ren : Go.Shelf.Ren := ⟨fun | 280 => 23 | 316 => 28 | n => n, fun | 9 => 9 | 168 => 45 | 75 => 38 | 210 => 51 | 3 => 3 | 4 => 4 | 37 => 34 | 0 => 0 | 127 => 54 | 80 => 76 | 5 => 5 | n => n, fun | 16 => 1 | n => n⟩
theorem Tryd.laysM280 : Go.Proofs.LaysM.n280 Tryd.prog Tryd.laysM280_ren := {
  mixed := by kernel_rfl
  f280 := Tryd.func23.trans (congrArg some (by kernel_rfl))
  f316 := Tryd.func28.trans (congrArg some (by kernel_rfl))
  t0 := Tryd.underlying0
  a0 := Tryd.isAgg0
  z0 := Tryd.sizeOf0
  v0 := Tryd.zeroValue0
  t3 := Tryd.underlying3
  a3 := Tryd.isAgg3
  z3 := Tryd.sizeOf3
  v3 := Tryd.zeroValue3
  t4 := Tryd.underlying4
  a4 := Tryd.isAgg4
  z4 := Tryd.sizeOf4
  v4 := Tryd.zeroValue4
  t9 := Tryd.underlying9
  a9 := Tryd.isAgg9
  z9 := Tryd.sizeOf9
  v9 := Tryd.zeroValue9
  t37 := Tryd.underlying34
  a37 := Tryd.isAgg34
  z37 := Tryd.sizeOf34
  v37 := Tryd.zeroValue34
  t75 := Tryd.underlying38
  a75 := Tryd.isAgg38
  z75 := Tryd.sizeOf38
  v75 := Tryd.zeroValue38
  t127 := Tryd.underlying54
  a127 := Tryd.isAgg54
  z127 := Tryd.sizeOf54
  v127 := Tryd.zeroValue54
  t168 := Tryd.underlying45
  a168 := Tryd.isAgg45
  z168 := Tryd.sizeOf45
  v168 := Tryd.zeroValue45
  t210 := Tryd.underlying51
  a210 := Tryd.isAgg51
  z210 := Tryd.sizeOf51
  v210 := Tryd.zeroValue51
  g16 := by kernel_rfl
  t5 := Tryd.underlying5
  a5 := Tryd.isAgg5
  z5 := Tryd.sizeOf5
  v5 := Tryd.zeroValue5
  t80 := Tryd.underlying76
  a80 := Tryd.isAgg76
  z80 := Tryd.sizeOf76
  v80 := Tryd.zeroValue76
  i0 := by kernel_rfl
  i3 := by kernel_rfl
  i4 := by kernel_rfl
  i5 := by kernel_rfl
  i9 := by kernel_rfl
  i37 := by kernel_rfl
  i75 := by kernel_rfl
  i80 := by kernel_rfl
  i127 := by kernel_rfl
  i168 := by kernel_rfl
  i210 := by kernel_rfl
  m16 := by kernel_rfl }
open Go.RowKit in
theorem Tryd.strconv_rangeError (fn s : ByteArray) (ev : Value) (w : World) (hlim : s.size ≤ 281474976710656) (hv : w.cell? ⟨1, 0, none⟩ = some ev) (hev : ev = .nilIface ∨ ∃ te pe, ev = .iface te pe) :
    Calls Tryd.prog 23 #[.string fn, .string s] w fun e w' => ∃ N, e = .returned (.pointer (some ⟨N, 0, none⟩)) ∧ w.heap.size ≤ N ∧ w'.heap[N]? = some (.cells #[.string fn, .string s, ev] 51 (0, 0)) ∧ Below w.heap.size w w' := Any.strconv_rangeError Tryd.laysM280 fn s ev w hlim hv hev
end Go.Proofs
