/-
  The proof of 'Rows.FnSpotExactSaid': the frame is the guide's (proof-skeleton), the walk is ours; the world behind the call is told by 'Below' (what lay there before is as it was), so the row's post is given limb by limb.
-/
import Derived.Test.Qxb6604285aRows
import Derived.Test.Qxb6604285aReader
import Derived.Test.Qxb6604285aRuns
import Derived.WalkKit
import Derived.ProofKit
import Derived.OpenShut
import Derived.ShutString
namespace Go.Proofs.Qxb6604285a.fnSpotExact
open Go.ChangeShapes Go.WideShapes Go.ChangeAt Go.RowKit
open Go.ChangeMaps (open_string shut_string)
set_option linter.unusedVariables false      -- a walk need not use every 'w<i>' (that an integer argument fits its kind)

theorem own : ownKnob Try.prog.godebug = none := by kernel_rfl

open Plain
theorem toList_eq (b : ByteArray) : b.toList = b.data.toList := by
  obtain ⟨⟨l⟩⟩ := b
  simp
/-! ### The walk: the Go text returns true; what lay there before is as it was. -/
set_option maxHeartbeats 1600000 in
theorem walk (a0 : ByteArray) (w0 : a0.size ≤ maxLen) (w : World) :
    Calls Try.prog 3 #[.string a0] w fun e w' => e = .returned (.bool true) ∧ Below w.heap.size w w' := by
  unfold maxLen at w0
  by_cases hs : a0.size ≤ 1048576
  · have hZ := zzSpot_any a0 hs w
    have hC := fun W => cand_any a0 hs W
    have hlt := cand_lt a0.data.toList
    obtain ⟨c, hc⟩ : ∃ c : Int, c = (cand a0.data.toList : Int) := ⟨_, rfl⟩
    rw [← hc] at hC
    have hD := fun W => render_any (cand a0.data.toList) (by omega) W c hc
    cases hr : spotL a0.data.toList with
    | some v =>
      obtain ⟨hv, hl⟩ := spotL_some _ v hr
      have hcv : cand a0.data.toList = v := by rw [hl]; exact cand_rend v hv
      have hZ' : Calls Try.prog 7 #[.string a0] w fun e w' => e = .returned (.tuple #[.int .u32 c, .bool true]) ∧ Below w.heap.size w w' := by
        rw [hr] at hZ
        rw [hc, hcv]
        exact hZ
      have HD : Hid (rend (cand a0.data.toList) = a0.data.toList) := by show _ = _; rw [hcv]; exact hl.symm
      clear hZ hr hl hcv hc
      go_enter Try.func3, Try.ntmps3
      go_wp2_with (first | (go_at_call 6; go_in) | (go_at_call 7; refine hZ'.mono ?_))
      rintro e w1 ⟨rfl, hb1⟩
      try intro hb1
      go_wp2_with (go_at_call 8; refine (hC _).mono ?_)
      rintro e w2 ⟨rfl, hb2⟩
      try intro hb2
      go_wp2_with (go_at_call 9; refine (hD _).mono ?_)
      rintro e w3 ⟨⟨R, rfl, hR⟩, hb3⟩
      have hq : (R.toList == a0.toList) = true := by rw [toList_eq, toList_eq, hR, HD.out]; simp
      have ht : Below w.heap.size w w3 := hb1.trans ((hb2.trans (hb3.mono hb2.size)).mono hb1.size)
      clear hR hC hD hZ' hb1 hb2 hb3
      go_wp2
      go_ret
      exact ⟨by simp, ht⟩
    | none =>
      have HD : Hid (rend (cand a0.data.toList) ≠ a0.data.toList) := fun e => by
        have h := spotL_rend (cand a0.data.toList) (by omega)
        rw [e, hr, if_pos hlt] at h
        cases h
      have hZ' : Calls Try.prog 7 #[.string a0] w fun e w' => e = .returned (.tuple #[.int .u32 0, .bool false]) ∧ Below w.heap.size w w' := by
        rw [hr] at hZ
        exact hZ
      clear hZ hr hc
      go_enter Try.func3, Try.ntmps3
      go_wp2_with (first | (go_at_call 6; go_in) | (go_at_call 7; refine hZ'.mono ?_))
      rintro e w1 ⟨rfl, hb1⟩
      try intro hb1
      go_wp2_with (go_at_call 8; refine (hC _).mono ?_)
      rintro e w2 ⟨rfl, hb2⟩
      try intro hb2
      go_wp2_with (go_at_call 9; refine (hD _).mono ?_)
      rintro e w3 ⟨⟨R, rfl, hR⟩, hb3⟩
      have hq : (R.toList == a0.toList) = false := by rw [beq_eq_false_iff_ne, toList_eq, toList_eq, hR]; exact HD.out
      have ht : Below w.heap.size w w3 := hb1.trans ((hb2.trans (hb3.mono hb2.size)).mono hb1.size)
      clear hR hC hD hZ' hb1 hb2 hb3
      go_wp2
      go_ret
      exact ⟨rfl, ht⟩
  · go_enter Try.func3, Try.ntmps3
    go_wp2
    go_ret
    exact ⟨rfl, Below.refl _ _⟩

/-! ### THE ROW's STEP: WRITTEN OUT: LEAVE IT -/
set_option maxRecDepth 100000 in
theorem lifted (os : Os) (started : os.Started) (H : Type) (enc : TypeId × Value → H) :
    ReturnsInHanded {} Try.checked os 3 .any (Rows.fnSpotExactSpec.pre6 enc Try.prog Try.f3 Rows.fnSpotExactRow.domain false) (Rows.fnSpotExactSpec.post enc Try.prog Try.f3 false true false false) := by
  refine returnsInHanded_of_change (C := Try.checked) own started (by kernel_rfl) Try.func3
    (ChangeSpec.witness6 (enc := enc) (C := Try.checked) false ⟨#[], #[.string ByteArray.empty], []⟩ 8 (by kernel_rfl) (by kernel_rfl) (by kernel_rfl) (by kernel_rfl)) ?_
  intro W base args ds gs before hval0 hW hcnd _
  have hval : ∀ (j : Nat) t v, Try.f3.params[j]? = some t → args[j]? = some v → Value.okWide Try.prog W .any base t v := hval0
  have hW' := hW
  obtain ⟨p, q, hA0, hV, rfl, hfz, hnd⟩ := hW
  have hA : DataW.TrodAll enc Try.prog W 0 (fun _ => true) true Try.f3.params.toList args.toList ds p := hA0
  rw [Try.params3] at hA hval
  obtain ⟨v0, vs0, d0, ds0, p0, q0, hargs, rfl, rfl, h0, r0⟩ := trodAll_cons hA
  obtain ⟨rfl, rfl, rfl⟩ := trodAll_nil r0
  obtain rfl : args = #[v0] := by cases args; simp_all
  obtain ⟨rfl, rfl⟩ := trodVars_none hV
  obtain ⟨a0, rfl, rfl, rfl, w0⟩ := open_string Try.underlying9 (hval 0 9 v0 rfl rfl) h0
  clear hA0 hval0
  simp only [List.append_nil] at hW'
  refine (walk a0 w0 W).mono fun e W' ⟨he, bel⟩ => ?_
  subst he
  exact ⟨_, rfl, _, _, _, [], _, [], hW', trodAll_mk1 (shut_bool Try.underlying4 _), (trodAll_cons_mk (shut_string Try.underlying9 w0) trodAll_mk0), rfl, bel.frame _, fun h => by cases h⟩

theorem over : Rows.fnSpotExactRow.holds Try.pinned (OpenSpec.ofChange Rows.fnSpotExactSpec) :=
  OpenClaim.holds_of_wide 3 Try.f3 rfl rfl rfl rfl rfl rfl rfl ⟨rfl, rfl, rfl, rfl, rfl⟩ rfl rfl rfl rfl rfl (by kernel_rfl) Try.func3 (by kernel_rfl)
    (of_decide_eq_true (by kernel_rfl)) (by unfold Func.isWrapper; first | (rw [if_pos (by decide +kernel)]; kernel_rfl) | (rw [if_neg (by decide +kernel)]; exact ⟨rfl, rfl⟩))
    (fun os started H enc _ => lifted os started H enc)

/-- ████ THE STATEMENT ████ -/
theorem proved : Rows.FnSpotExactSaid :=
  over
end Go.Proofs.Qxb6604285a.fnSpotExact
