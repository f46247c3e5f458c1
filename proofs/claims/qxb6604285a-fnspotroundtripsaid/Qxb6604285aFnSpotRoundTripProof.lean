/-
  The proof of 'Rows.FnSpotRoundTripSaid': the frame is the guide's (proof-skeleton), the walk is ours; the world behind the call is told by 'Below' (what lay there before is as it was), so the row's post is given limb by limb.
-/
import Derived.Test.Qxb6604285aRows
import Derived.Test.Qxb6604285aReader
import Derived.WalkKit
import Derived.ProofKit
import Derived.OpenShut
import Derived.ShutString
namespace Go.Proofs.Qxb6604285a.fnSpotRoundTrip
open Go.ChangeShapes Go.WideShapes Go.ChangeAt Go.RowKit
open Go.ChangeMaps (open_string shut_string)
set_option linter.unusedVariables false      -- a walk need not use every 'w<i>' (that an integer argument fits its kind)

theorem own : ownKnob Try.prog.godebug = none := by kernel_rfl

open Plain
/-! ### The walk: the Go text returns true; what lay there before is as it was. -/
set_option maxHeartbeats 1600000 in
theorem walk (a0 : Int) (w0 : (Lit.int .u32 a0).wf = true) (w : World) :
    Calls Try.prog 4 #[.int .u32 a0] w fun e w' => e = .returned (.bool true) ∧ Below w.heap.size w w' := by
  have hb := bounds_u32 w0
  clear w0
  have c0 : 0 ≤ a0 := by omega
  have c1 : a0 < 4294967296 := by omega
  clear hb
  have hr := render_any a0.toNat (by omega) w a0 (by omega)
  have hs := spotL_rend a0.toNat (by omega)
  by_cases hv : a0 < 16777216
  · rw [if_pos (by omega)] at hs
    have HS : Hid (spotL (rend a0.toNat) = some a0.toNat) := hs
    clear hs
    go_enter Try.func4, Try.ntmps4
    go_wp2_with (go_at_call 9; refine hr.mono ?_)
    rintro e w1 ⟨⟨R, rfl, hR⟩, hb1⟩
    have hz : R.size ≤ 1048576 := by rw [Lib.size_eq, hR]; have := rend_len a0.toNat; omega
    have hZ : Calls Try.prog 7 #[.string R] w1 fun e w' => e = .returned (.tuple #[.int .u32 a0, .bool true]) ∧ Below w1.heap.size w1 w' := by
      have h := zzSpot_any R hz w1
      rw [hR, HS.out] at h
      have e : ((a0.toNat : Nat) : Int) = a0 := by omega
      have h' : Calls Try.prog 7 #[.string R] w1 fun e w' => e = .returned (.tuple #[.int .u32 (a0.toNat : Int), .bool true]) ∧ Below w1.heap.size w1 w' := h
      rw [e] at h'
      exact h'
    clear hR hr
    go_wp2_with (go_at_call 7; refine hZ.mono ?_)
    rintro e w2 ⟨rfl, hb2⟩
    try intro hb2
    go_wp2
    go_ret
    exact ⟨by simp, hb1.trans (hb2.mono hb1.size)⟩
  · rw [if_neg (by omega)] at hs
    have HS : Hid (spotL (rend a0.toNat) = none) := hs
    clear hs
    go_enter Try.func4, Try.ntmps4
    go_wp2_with (go_at_call 9; refine hr.mono ?_)
    rintro e w1 R rfl hR hb1
    have hz : R.size ≤ 1048576 := by rw [Lib.size_eq, hR]; have := rend_len a0.toNat; omega
    have hZ : Calls Try.prog 7 #[.string R] w1 fun e w' => e = .returned (.tuple #[.int .u32 0, .bool false]) ∧ Below w1.heap.size w1 w' := by
      have h := zzSpot_any R hz w1
      rw [hR, HS.out] at h
      exact h
    clear hR hr
    go_wp2_with (go_at_call 7; refine hZ.mono ?_)
    rintro e w2 ⟨rfl, hb2⟩
    try intro hb2
    go_wp2
    go_ret
    exact ⟨rfl, hb1.trans (hb2.mono hb1.size)⟩

/-! ### THE ROW's STEP: WRITTEN OUT: LEAVE IT -/
set_option maxRecDepth 100000 in
theorem lifted (os : Os) (started : os.Started) (H : Type) (enc : TypeId × Value → H) :
    ReturnsInHanded {} Try.checked os 4 .any (Rows.fnSpotRoundTripSpec.pre6 enc Try.prog Try.f4 Rows.fnSpotRoundTripRow.domain false) (Rows.fnSpotRoundTripSpec.post enc Try.prog Try.f4 false true false false) := by
  refine returnsInHanded_of_change (C := Try.checked) own started (by kernel_rfl) Try.func4
    (ChangeSpec.witness6 (enc := enc) (C := Try.checked) false ⟨#[], #[.int .u32 0], []⟩ 8 (by kernel_rfl) (by kernel_rfl) (by kernel_rfl) (by kernel_rfl)) ?_
  intro W base args ds gs before hval0 hW hcnd _
  have hval : ∀ (j : Nat) t v, Try.f4.params[j]? = some t → args[j]? = some v → Value.okWide Try.prog W .any base t v := hval0
  have hW' := hW
  obtain ⟨p, q, hA0, hV, rfl, hfz, hnd⟩ := hW
  have hA : DataW.TrodAll enc Try.prog W 0 (fun _ => true) true Try.f4.params.toList args.toList ds p := hA0
  rw [Try.params4] at hA hval
  obtain ⟨v0, vs0, d0, ds0, p0, q0, hargs, rfl, rfl, h0, r0⟩ := trodAll_cons hA
  obtain ⟨rfl, rfl, rfl⟩ := trodAll_nil r0
  obtain rfl : args = #[v0] := by cases args; simp_all
  obtain ⟨rfl, rfl⟩ := trodVars_none hV
  obtain ⟨a0, rfl, rfl, rfl, w0⟩ := open_int Try.underlying23 (hval 0 23 v0 rfl rfl) h0
  clear hA0 hval0
  simp only [List.append_nil] at hW'
  refine (walk a0 w0 W).mono fun e W' ⟨he, bel⟩ => ?_
  subst he
  exact ⟨_, rfl, _, _, _, [], _, [], hW', trodAll_mk1 (shut_bool Try.underlying4 _), (trodAll_cons_mk (shut_int Try.underlying23 w0) trodAll_mk0), rfl, bel.frame _, fun h => by cases h⟩

theorem over : Rows.fnSpotRoundTripRow.holds Try.pinned (OpenSpec.ofChange Rows.fnSpotRoundTripSpec) :=
  OpenClaim.holds_of_wide 4 Try.f4 rfl rfl rfl rfl rfl rfl rfl ⟨rfl, rfl, rfl, rfl, rfl⟩ rfl rfl rfl rfl rfl (by kernel_rfl) Try.func4 (by kernel_rfl)
    (of_decide_eq_true (by kernel_rfl)) (by unfold Func.isWrapper; first | (rw [if_pos (by decide +kernel)]; kernel_rfl) | (rw [if_neg (by decide +kernel)]; exact ⟨rfl, rfl⟩))
    (fun os started H enc _ => lifted os started H enc)

/-- ████ THE STATEMENT ████ -/
theorem proved : Rows.FnSpotRoundTripSaid :=
  over
end Go.Proofs.Qxb6604285a.fnSpotRoundTrip
