/-
  The proof of 'Rows.FnSnakeCaseUndoneOnPascalTagsSaid': the frame is the guide's (proof-skeleton), the walk is ours; the world behind the call is told by 'Below' (what lay there before is as it was), so the row's post is given limb by limb.
-/
import Derived.Test.Qxb6604008aRows
import Derived.Test.Qxb6604008aSnake
import Derived.Test.Qxb6604008aPascal
import Derived.WalkKit
import Derived.ProofKit
import Derived.OpenShut
import Derived.ShutString
namespace Go.Proofs.Qxb6604008a.fnSnakeCaseUndoneOnPascalTags
open Go.ChangeShapes Go.WideShapes Go.ChangeAt Go.RowKit
open Go.ChangeMaps (open_string shut_string)
set_option linter.unusedVariables false      -- a walk need not use every 'w<i>' (that an integer argument fits its kind)

theorem own : ownKnob Try.prog.godebug = none := by kernel_rfl

open Plain
/-- The tag comes back whole: the plain law, said of the two byte strings. -/
theorem back (s : ByteArray) (h : 0 < s.size) (h0 : isCap s[0] = true) (hno : ∀ k (hk : k < s.size), ((s[k].toNat : Int) == 95) = false) :
    (⟨(pas (⟨(snk s.data.toList s.size).toArray⟩ : ByteArray).data.toList).2.toArray⟩ : ByteArray) = s := by
  have hl : s.data.toList.length = s.size := by simp
  have := pas_snk_all s.data.toList (by rw [getD_at s 0 h]; exact h0) (fun k hk => by rw [getD_at s k (by omega)]; exact not95 _ (hno k (by omega)))
  rw [hl] at this
  show (⟨(pas (snk s.data.toList s.size)).2.toArray⟩ : ByteArray) = s
  rw [this]
theorem snk_size (s : ByteArray) : (⟨(snk s.data.toList s.size).toArray⟩ : ByteArray).size ≤ 2 * s.size := by
  have := snk_len s.data.toList s.size
  show (snk s.data.toList s.size).toArray.size ≤ 2 * s.size
  rw [List.size_toArray]
  exact this

/-! ### The walk: the Go text returns true; what lay there before is as it was. -/
set_option maxHeartbeats 1600000 in
theorem walk (a0 : ByteArray) (w0 : a0.size ≤ maxLen) (w : World) :
    Calls Try.prog 4 #[.string a0] w fun e w' => e = .returned (.bool true) ∧ Below w.heap.size w w' := by
  unfold maxLen at w0
  by_cases hs : a0.size ≤ 1048576
  · by_cases hp : 0 < a0.size
    · have hz0 : ((a0.size : Int) == 0) = false := by rw [beq_eq_false_iff_ne]; omega
      rcases (show ((65 : Int) ≤ (a0[0].toNat : Int) ∧ (a0[0].toNat : Int) ≤ 90) ∨ (a0[0].toNat : Int) < 65 ∨ (90 : Int) < (a0[0].toNat : Int) from by omega) with ⟨k1, k2⟩ | k1 | k1
      · have kd : decide ((a0[0].toNat : Int) ≤ 90) = true := by simpa using k2
        by_cases hno : ∀ k (hk : k < a0.size), ((a0[k].toNat : Int) == 95) = false
        · have HB : Hid ((⟨(pas (⟨(snk a0.data.toList a0.size).toArray⟩ : ByteArray).data.toList).2.toArray⟩ : ByteArray) = a0) := back a0 hp ((isCap_iff _).2 (by omega)) hno
          have HN : Hid (∀ k (hk : k < a0.size), ((a0[k].toNat : Int) == 95) = false) := hno
          clear hno
          go_enter Try.func4, Try.ntmps4
          go_wp2_with (first | (go_at_call 8; go_in) | (go_at_call 9; go_in) | (go_at_call 10; refine (hasByte_no a0 _ hs HN.out).mono ?_; rintro e w1 ⟨rfl, rfl⟩) | (go_at_call 6; refine (zzSnake_any a0 _ hs).mono ?_))
          rintro e w1 ⟨rfl, hb1⟩
          try intro hb1
          have hz := snk_size a0
          go_wp2_with (go_at_call 11; refine (pascal_any _ _ (by omega)).mono ?_)
          rintro e w2 ⟨rfl, hb2⟩
          try intro hb2
          rw [HB.out]
          go_wp2
          go_ret
          exact ⟨by simp, hb1.trans (hb2.mono hb1.size)⟩
        · have hex : ∃ k0, ∃ hk : k0 < a0.size, ((a0[k0].toNat : Int) == 95) = true := by
            refine Classical.byContradiction fun h => hno fun k hk => ?_
            cases e : ((a0[k].toNat : Int) == 95) with
            | true => exact absurd ⟨k, hk, e⟩ h
            | false => rfl
          obtain ⟨k0, hk0, h0⟩ := hex
          have H0 : Hid (((a0[k0].toNat : Int) == 95) = true) := h0
          clear hno h0
          go_enter Try.func4, Try.ntmps4
          go_wp2_with (first | (go_at_call 8; go_in) | (go_at_call 9; go_in) | (go_at_call 10; refine (hasByte_yes a0 _ hs k0 hk0 H0.out).mono ?_; rintro e w1 ⟨rfl, rfl⟩))
          go_ret
          exact ⟨rfl, Below.refl _ _⟩
      all_goals
        try have kd : decide ((a0[0].toNat : Int) ≤ 90) = false := by simpa using k1
        go_enter Try.func4, Try.ntmps4
        go_wp2
        go_ret
        exact ⟨rfl, Below.refl _ _⟩
    · have hz0 : ((a0.size : Int) == 0) = true := by rw [beq_iff_eq]; omega
      go_enter Try.func4, Try.ntmps4
      go_wp2
      go_ret
      exact ⟨rfl, Below.refl _ _⟩
  · go_enter Try.func4, Try.ntmps4
    go_wp2
    go_ret
    exact ⟨rfl, Below.refl _ _⟩

/-! ### THE ROW's STEP: WRITTEN OUT: LEAVE IT -/
set_option maxRecDepth 100000 in
theorem lifted (os : Os) (started : os.Started) (H : Type) (enc : TypeId × Value → H) :
    ReturnsInHanded {} Try.checked os 4 .any (Rows.fnSnakeCaseUndoneOnPascalTagsSpec.pre6 enc Try.prog Try.f4 Rows.fnSnakeCaseUndoneOnPascalTagsRow.domain false) (Rows.fnSnakeCaseUndoneOnPascalTagsSpec.post enc Try.prog Try.f4 false true false false) := by
  refine returnsInHanded_of_change (C := Try.checked) own started (by kernel_rfl) Try.func4
    (ChangeSpec.witness6 (enc := enc) (C := Try.checked) false ⟨#[], #[.string ByteArray.empty], []⟩ 8 (by kernel_rfl) (by kernel_rfl) (by kernel_rfl) (by kernel_rfl)) ?_
  intro W base args ds gs before hval0 hW hcnd _
  have hval : ∀ (j : Nat) t v, Try.f4.params[j]? = some t → args[j]? = some v → Value.okWide Try.prog W .any base t v := hval0
  have hW' := hW
  obtain ⟨p, q, hA0, hV, rfl, hfz, hnd⟩ := hW
  have hA : DataW.TrodAll enc Try.prog W 0 (fun _ => true) true Try.f4.params.toList args.toList ds p := hA0
  rw [Try.params4] at hA hval
  obtain ⟨v0, vs0, d0, ds0, p0, q0, hargs, rfl, rfl, h0, r0⟩ := trodAll_cons hA
  obtain ⟨rfl, rfl, rfl⟩ := trodAll_nil r0
  obtain rfl : args = #[v0] := by cases args; simp_all
  obtain ⟨rfl, rfl⟩ := trodVars_none hV
  obtain ⟨a0, rfl, rfl, rfl, w0⟩ := open_string Try.underlying9 (hval 0 9 v0 rfl rfl) h0
  clear hA0 hval0
  simp only [List.append_nil] at hW'
  refine (walk a0 w0 W).mono fun e W' ⟨he, bel⟩ => ?_
  subst he
  exact ⟨_, rfl, _, _, _, [], _, [], hW', trodAll_mk1 (shut_bool Try.underlying4 _), (trodAll_cons_mk (shut_string Try.underlying9 w0) trodAll_mk0), rfl, bel.frame _, fun h => by cases h⟩

theorem over : Rows.fnSnakeCaseUndoneOnPascalTagsRow.holds Try.pinned (OpenSpec.ofChange Rows.fnSnakeCaseUndoneOnPascalTagsSpec) :=
  OpenClaim.holds_of_wide 4 Try.f4 rfl rfl rfl rfl rfl rfl rfl ⟨rfl, rfl, rfl, rfl, rfl⟩ rfl rfl rfl rfl rfl (by kernel_rfl) Try.func4 (by kernel_rfl)
    (of_decide_eq_true (by kernel_rfl)) (by unfold Func.isWrapper; first | (rw [if_pos (by decide +kernel)]; kernel_rfl) | (rw [if_neg (by decide +kernel)]; exact ⟨rfl, rfl⟩))
    (fun os started H enc _ => lifted os started H enc)

/-- ████ THE STATEMENT ████ -/
theorem proved : Rows.FnSnakeCaseUndoneOnPascalTagsSaid :=
  over
end Go.Proofs.Qxb6604008a.fnSnakeCaseUndoneOnPascalTags
