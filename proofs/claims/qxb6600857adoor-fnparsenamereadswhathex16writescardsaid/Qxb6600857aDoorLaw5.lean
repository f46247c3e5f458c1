/-
  The walk of FnParseNameReadsWhatHex16Writes (5): true, whatever the input.
-/
import Derived.Test.Qxb6600857aDoorName
import Derived.Test.Qxb6600857aDoorHex
namespace Go.Proofs.Qxb6600857aDoor
open Go.RowKit Plain

theorem data_add (a b : ByteArray) : (a ++ b).data.toList = a.data.toList ++ b.data.toList := by simp
theorem pn_add (a b : List UInt8) (h : b.length = 16) : pn (a ++ b) a = parse16 b := by
  have hp : Lib.hasPrefix (a ++ b) a = true := by simp [Lib.hasPrefix]
  have ht : Lib.trimPrefix (a ++ b) a = b := by simp [Lib.trimPrefix, hp]
  unfold pn
  rw [ht, if_pos ⟨hp, h⟩]

set_option maxHeartbeats 2000000 in
set_option maxRecDepth 100000 in
theorem law5 (p : ByteArray) (v : Int) (up : Bool) (w : World) (hp : p.size ≤ 9223372036854775807) (v0 : -9223372036854775808 ≤ v) (v1 : v ≤ 9223372036854775807) (h0 : IsErr w 0) (h1 : IsErr w 1) :
    Calls Tryd.prog 5 #[.string p, .int .i64 v, .bool up] w fun e w' => e = .returned (.bool true) ∧ Below w.heap.size w w' := by
  by_cases hs : p.size ≤ 1048560
  · obtain ⟨U, hU, hU1⟩ : ∃ U : Nat, IntKind.u64.wrap v = (U : Int) ∧ U < 18446744073709551616 := by
      refine ⟨(v % 18446744073709551616).toNat, ?_, by omega⟩
      rw [IntKind.wrap_u64]; omega
    have hX := hex16_any v up w U hU hU1
    obtain ⟨h, hh⟩ : ∃ h : ByteArray, h = ⟨(ds up U 16).toArray⟩ := ⟨_, rfl⟩
    have hhs : h.size = 16 := by rw [hh, Lib.size_eq]; simp [ds_length]
    have hhd : h.data.toList = ds up U 16 := by rw [hh]
    rw [← hh] at hX
    have hsum : (p ++ h).size ≤ 1048576 := by simp; omega
    have hP : pn (p ++ h).data.toList p.data.toList = if U < 9223372036854775808 then ((U : Int), true) else (9223372036854775807, false) := by
      rw [data_add, hhd, pn_add _ _ (ds_length up U 16), parse16_ds up U hU1]
    have hZ := fun W => zzParseName_any (p ++ h) p hsum W
    by_cases hv : v < 0
    · have hU' : IntKind.u64.wrap v = v + 18446744073709551616 := by rw [IntKind.wrap_u64]; omega
      rw [if_neg (by omega)] at hP
      rw [hP] at hZ
      clear hP hhd hh hU hU'
      go_enter Tryd.func5, Tryd.ntmps5
      go_wp2_with (first | (go_at_call 11; go_in) | (go_at_call 12; refine hX.mono ?_))
      rintro e w1 ⟨rfl, hb1⟩
      try intro hb1
      have e0 := h0.below hb1
      have e1 := h1.below hb1
      go_wp2_with (go_at_call 8; refine (hZ _ e0 e1).mono ?_)
      rintro e w2 ⟨rfl, hb2⟩
      try intro hb2
      go_wp2
      go_ret
      exact ⟨rfl, hb1.trans (hb2.mono hb1.size)⟩
    · have hU' : (U : Int) = v := by rw [← hU, IntKind.wrap_u64]; omega
      rw [if_pos (by omega), hU'] at hP
      rw [hP] at hZ
      clear hP hhd hh hU hU'
      go_enter Tryd.func5, Tryd.ntmps5
      go_wp2_with (first | (go_at_call 11; go_in) | (go_at_call 12; refine hX.mono ?_))
      rintro e w1 ⟨rfl, hb1⟩
      try intro hb1
      have e0 := h0.below hb1
      have e1 := h1.below hb1
      go_wp2_with (go_at_call 8; refine (hZ _ e0 e1).mono ?_)
      rintro e w2 ⟨rfl, hb2⟩
      try intro hb2
      go_wp2
      go_ret
      exact ⟨by simp, hb1.trans (hb2.mono hb1.size)⟩
  · clear h0 h1
    by_cases hs2 : p.size ≤ 1048576
    all_goals
      go_enter Tryd.func5, Tryd.ntmps5
      go_wp2
      go_ret
      exact ⟨rfl, Below.refl _ _⟩
end Go.Proofs.Qxb6600857aDoor
