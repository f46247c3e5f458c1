/-
  The walks of zzClone (11), zzEqualBytes (13), bytes.Compare (19).
-/
import Derived.Test.Qxb6604285aProg
import Derived.Test.Qxb6604285aCmp
import Derived.WalkKit
import Derived.OpenShut
import Derived.RegionTactic
import Derived.Lib.BytesEntry
import Derived.Lib.SliceRun
import Derived.Lib.AtoiErrMem
import Derived.Lib.Walk
import Derived.Laws.Externs
import Derived.Laws.OwnMore
import Derived.KernelRfl
namespace Go.Proofs.Qxb6604285a
open Go.RowKit Plain

/-- WHAT THE WALK IS TOLD OF A SLICE OF INTEGERS THAT CAME IN (the guide's frame): it is nil; or it leads to a row of 'cap' cells, the numbers 'zs' (the first 'len' are its elements, the rest its spare room), each fitting its kind. -/
def IsRow (k : IntKind) (w : World) (a : Option Addr) (len cap : Nat) (zs : List Int) : Prop :=
  (a = none ∧ len = 0 ∧ cap = 0 ∧ zs = []) ∨
  ∃ x, a = some x ∧ len ≤ cap ∧ cap ≤ maxLen ∧ zs.length = cap ∧ (∀ i, i < zs.length → w.cell? (x.add i) = some (.int k (zs.getD i 0))) ∧ ∀ n ∈ zs, (Lit.int k n).wf = true
theorem IsRow.below {k : IntKind} {w w' : World} {a : Option Addr} {len cap : Nat} {zs : List Int} (h : IsRow k w a len cap zs) (hb : Below w.heap.size w w') : IsRow k w' a len cap zs := by
  rcases h with h | ⟨x, h1, h2, h3, h4, h5, h6⟩
  · exact .inl h
  · exact .inr ⟨x, h1, h2, h3, h4, fun i hi => (hb.cell (Lib.lt_of_cell (h5 i hi))).trans (h5 i hi), h6⟩

/-- A slice value and the bytes that it leads to. -/
def BytesAt (w : World) (v : Value) (l : List UInt8) : Prop :=
  ∃ ao cap, v = .slice ao l.length cap ∧ (l = [] ∨ ∃ g, ao = some ⟨g, 0, none⟩ ∧ ∀ i (h : i < l.length), w.cell? ⟨g, i, none⟩ = some (.int .u8 (l[i].toNat : Int)))
theorem BytesAt.below {w w' : World} {v : Value} {l : List UInt8} (h : BytesAt w v l) (hb : Below w.heap.size w w') : BytesAt w' v l := by
  obtain ⟨ao, cap, hv, h | ⟨g, hg, hc⟩⟩ := h
  · exact ⟨ao, cap, hv, .inl h⟩
  · exact ⟨ao, cap, hv, .inr ⟨g, hg, fun i hi => (hb.cell (p := ⟨g, i, none⟩) (Lib.lt_of_cell (hc i hi))).trans (hc i hi)⟩⟩

/-- The bytes of the first 'len' numbers. -/
def bytesL (zs : List Int) (len : Nat) : List UInt8 := (zs.take len).map fun n => UInt8.ofNat n.toNat
theorem bytesL_length (zs : List Int) (len : Nat) (h : len ≤ zs.length) : (bytesL zs len).length = len := by
  rw [bytesL, List.length_map, List.length_take]; omega
theorem bytesL_get (zs : List Int) (len i : Nat) (hi : i < len) (h : len ≤ zs.length) (hwf : ∀ n ∈ zs, 0 ≤ n ∧ n < 256) : ((bytesL zs len)[i]'(by rw [bytesL_length zs len h]; exact hi)).toNat = zs.getD i 0 := by
  have hm := hwf _ (List.getElem_mem (show i < zs.length by omega))
  have e : zs.getD i 0 = zs[i]'(by omega) := by simp [List.getD, List.getElem?_eq_getElem (show i < zs.length by omega)]
  rw [e]
  simp only [bytesL, List.getElem_map, List.getElem_take, UInt8.toNat_ofNat']
  omega
theorem info5 : (Try.prog.info? 5).map (fun i => (i.zero, i.size, i.bytes)) = some (some (.int .u8 0), 1, 1) := by kernel_rfl

set_option maxHeartbeats 2000000 in
set_option maxRecDepth 100000 in
theorem clone_core (x : Addr) (len cap : Nat) (zs : List Int) (w : World) (hl : len ≤ 524288) (hz : len ≤ zs.length)
    (hc : ∃ b off, (0 < len → x = ⟨b, off, none⟩) ∧ ∀ j, j < len → w.cell? ⟨b, off + j, none⟩ = some (.int .u8 (zs.getD j 0))) (hwf : ∀ n ∈ zs, 0 ≤ n ∧ n < 256) :
    Calls Try.prog 11 #[.slice (some x) len cap] w fun e w' => ∃ v, e = .returned v ∧ BytesAt w' v (bytesL zs len) ∧ Below w.heap.size w w' := by
  obtain ⟨i0, hi, hz0, hz1, hz2⟩ := info_parts info5
  have hnil : ∀ W, (binOp .eql 29 (.slice (some x) len cap) (.slice none 0 0)).run Try.prog W = .ok (.bool false) W := fun W => Lib.run_eql_slice_nil (P := Try.prog) W 29 5 (some x) len cap 0 0 Try.underlying29
  go_enter Try.func11, Try.ntmps11
  go_wp2_with (at_make; refine wpList_make_full _ rfl _ _ 29 rfl w.heap.size 5 i0 (.int .u8 0) 1 Try.underlying29 hi hz0 hz1 _ _ _ _ len rfl rfl rfl rfl ?b2 ?b3 (Nat.le_refl _) ?_)
  case b2 => rw [hz2]; omega
  case b3 => unfold maxLen; omega
  intro w0 hown0 hgrow0
  go_wp2
  go_loopw [4] (fun i wr => ∃ (k : Nat) (xs : List Value), k ≤ len ∧ i = .int .i64 k ∧ wr.ownsRow w.heap.size 5 1 (.slice (some ⟨w.heap.size, 0, none⟩) len len) len xs ∧
      Hid (∀ j, j < k → xs[j]? = some (.int .u8 (zs.getD j 0))) ∧ Below w.heap.size w wr) (fun i _ => len - (intOf i).toNat)
  case atStart => exact ⟨0, _, Nat.zero_le _, rfl, hown0, fun j hj => by omega, (Below.refl _ _).grown hgrow0 (Nat.le_refl _) (fun k h => by cases h)⟩
  case round =>
    obtain ⟨k, xs, hk, rfl, hown, hxs, hbel⟩ := hrel
    by_cases hlt : k < len
    · obtain ⟨b, off, hx, hcell⟩ := hc
      obtain rfl := hx (by omega)
      have hcl : wr.cell? ⟨b, off + k, none⟩ = some (.int .u8 (zs.getD k 0)) := (hbel.cell (p := ⟨b, off + k, none⟩) (Lib.lt_of_cell (hcell k hlt))).trans (hcell k hlt)
      have hxl : xs.length = len := by have := hown.1; omega
      obtain ⟨u, hu⟩ : ∃ u, xs[k]? = some u := ⟨xs[k]'(by omega), List.getElem?_eq_getElem (by omega)⟩
      have hcd : wr.cell? ⟨w.heap.size, k, none⟩ = some u := (hown.cellAt k (by omega)).trans hu
      have hfz : wr.frozen? ⟨w.heap.size, k, none⟩ = false := hown.frozenAt k
      have R := hown.stored k (.int .u8 (zs.getD k 0))
      have HR : Hid ((wr.setCell ⟨w.heap.size, k, none⟩ (.int .u8 (zs.getD k 0))).ownsRow w.heap.size 5 1 (.slice (some ⟨w.heap.size, 0, none⟩) len len) len (xs.set k (.int .u8 (zs.getD k 0)))) := R.1
      have HX : Hid (xs.length = len) := hxl
      have HB : Hid (Below w.heap.size w (wr.setCell ⟨w.heap.size, k, none⟩ (.int .u8 (zs.getD k 0)))) := hbel.setCell (p := ⟨w.heap.size, k, none⟩) (Nat.le_refl _) _
      clear R hcell hx hown hnil hxl hu
      go_wp2
      go_roundw
      case rel =>
        refine ⟨k + 1, xs.set k (.int .u8 (zs.getD k 0)), by omega, by go_num, HR.out, fun j hj => ?_, HB.out⟩
        by_cases e : j = k
        · subst e; rw [List.getElem?_set_self (by rw [HX.out]; omega)]
        · rw [List.getElem?_set_ne (fun h => e h.symm)]; exact hxs.out j (by omega)
      case measure => simp [intOf]; omega
    · obtain rfl : k = len := by omega
      clear hnil
      go_wp2
      go_ret
      refine ⟨.slice (some ⟨w.heap.size, 0, none⟩) k k, rfl, ?_, hbel⟩
      have hlen := bytesL_length zs k hz
      refine ⟨some ⟨w.heap.size, 0, none⟩, k, by rw [hlen], .inr ⟨w.heap.size, rfl, fun i h => ?_⟩⟩
      rw [hlen] at h
      rw [hown.cellAt i (by omega), hxs.out i h, bytesL_get zs k i h hz hwf]

theorem wf_byte {n : Int} (h : (Lit.int .u8 n).wf = true) : 0 ≤ n ∧ n < 256 := by have := bounds_u8 h; omega

set_option maxHeartbeats 800000 in
theorem clone_any (a : Option Addr) (len cap : Nat) (zs : List Int) (w : World) (hl : len ≤ 524288) (hr : IsRow .u8 w a len cap zs) :
    Calls Try.prog 11 #[.slice a len cap] w fun e w' => ∃ v, e = .returned v ∧ BytesAt w' v (bytesL zs len) ∧ Below w.heap.size w w' := by
  rcases hr with ⟨rfl, rfl, rfl, rfl⟩ | ⟨x, rfl, h2, h3, h4, h5, h6⟩
  · have hnil : ∀ W, (binOp .eql 29 (.slice none 0 0) (.slice none 0 0)).run Try.prog W = .ok (.bool true) W := fun W => Lib.run_eql_slice_nil (P := Try.prog) W 29 5 none 0 0 0 0 Try.underlying29
    go_enter Try.func11, Try.ntmps11
    go_wp2
    go_ret
    exact ⟨.slice none 0 0, rfl, ⟨none, 0, rfl, .inl rfl⟩, Below.refl _ _⟩
  · refine clone_core x len cap zs w hl (by omega) ?_ (fun n hn => wf_byte (h6 n hn))
    by_cases hp : 0 < zs.length
    · obtain ⟨b, off, rfl, hc⟩ := ints_at h5 hp
      exact ⟨b, off, fun _ => rfl, fun j hj => hc j (by omega)⟩
    · exact ⟨0, 0, fun h => by omega, fun j hj => by omega⟩

/-- bytes.Compare over two slices whose bytes are known. -/
theorem bytesOf_run {w : World} {v : Value} {l : List UInt8} (h : BytesAt w v l) : (Extern.Bytes.bytesOf v).run Try.prog w = .ok ⟨l.toArray⟩ w := by
  obtain ⟨ao, cap, rfl, hl⟩ := h
  rcases hl with rfl | ⟨g, rfl, hc⟩
  · cases ao with
    | none => rfl
    | some a => rfl
  · have hr := Lib.run_loadBytesX (P := Try.prog) w (l.map fun c => (c.toNat : Int)) ⟨g, 0, none⟩ .empty (fun j x hj => by
      have hjl : j < l.length := by have := (List.getElem?_eq_some_iff.1 hj).1; simpa using this
      rw [show (⟨g, 0, none⟩ : Addr).add j = ⟨g, j, none⟩ by unfold Addr.add; split <;> simp_all, hc j hjl]
      simp [List.getElem?_eq_getElem hjl] at hj
      rw [← hj])
    rw [List.length_map] at hr
    show (Extern.Bytes.loadBytes ⟨g, 0, none⟩ l.length .empty).run Try.prog w = _
    have e : Lib.bytesOf (l.map fun c => (c.toNat : Int)) = l := by
      simp only [Lib.bytesOf, List.map_map]
      exact (List.map_congr_left (fun c _ => by simp)).trans (List.map_id l)
    have he0 : ByteArray.empty.data = #[] := rfl
    rw [hr, e, he0]
    simp

set_option maxHeartbeats 800000 in
theorem compare_any (v1 v2 : Value) (l1 l2 : List UInt8) (w : World) (h1 : BytesAt w v1 l1) (h2 : BytesAt w v2 l2) :
    Calls Try.prog 19 #[v1, v2] w fun e w' => e = .returned (.int .i64 (Lib.compareBytes l1 l2)) ∧ w' = w := by
  have hrun : (Extern.BytealgCompare.compare #[v1, v2]).run Try.prog w = .ok (.int .i64 (Lib.compareBytes l1 l2)) w := by
    show Sem.run Try.prog (do let a ← Extern.Bytes.bytesOf v1; let b ← Extern.Bytes.bytesOf v2; pure (goInt (Extern.BytealgCompare.cmp a b))) w = _
    simp [bytesOf_run h1, bytesOf_run h2, Lib.cmp_eq, goInt]
  clear h1 h2
  go_enter Try.func19, Try.ntmps19
  go_wp2
  rw [run_callFunc_extern Try.func22 (by kernel_rfl) (by kernel_rfl) (by kernel_rfl) (e := Extern.BytealgCompare.compare) (by kernel_rfl)]
  rw [hrun]
  simp only [Result.andThen]
  rw [Oper.upon_value]
  go_wp2
  go_ret
  exact ⟨rfl, rfl⟩
end Go.Proofs.Qxb6604285a
