/-
  The proof of 'Rows.FnNewerTrichotomySaid': the frame is the guide's (proof-skeleton), the walk is ours.
-/
import Derived.Test.Qxb6604285aRows
import Derived.Test.Qxb6604285aNewer
import Derived.WalkKit
import Derived.ProofKit
import Derived.OpenShut
import Derived.ShutString
import Derived.ChangeOld
import Derived.Below
namespace Go.Proofs.Qxb6604285a.fnNewerTrichotomy
open Go.ChangeShapes Go.WideShapes Go.ChangeAt Go.RowKit
open Go.ChangeMaps (open_string shut_string)
set_option linter.unusedVariables false

theorem own : ownKnob Try.prog.godebug = none := by kernel_rfl
theorem laidOut : laidOutB Try.prog = true := by kernel_rfl

open Plain
set_option maxHeartbeats 3200000 in
set_option maxRecDepth 100000 in
/-- The main road, the versions not one: the later one replaces the other. -/
theorem walk_ne (a0 : Option Addr) (len0 cap0 : Nat) (z0 : List Int) (a1 : Int) (a2 : Option Addr) (len2 cap2 : Nat) (z2 : List Int) (a3 : Int) (w : World) (w0 : IsRow .u8 w a0 len0 cap0 z0) (w2 : IsRow .u8 w a2 len2 cap2 z2)
    (hl0 : len0 ≤ 524288) (hl2 : len2 ≤ 524288) (hs : len0 + len2 ≤ 1048576) (b : Bool) (hne : a1 ≠ a3) (hb : decide (a3 < a1) = b) :
    Calls Try.prog 5 #[.slice a0 len0 cap0, .int .u64 a1, .slice a2 len2 cap2, .int .u64 a3] w fun e w' => e = .returned (.bool true) ∧ Below w.heap.size w w' := by
  have hq : (a1 == a3) = false := by rw [beq_eq_false_iff_ne]; exact hne
  have hb' : decide (a1 < a3) = !b := by
    rw [← hb]
    by_cases h : a3 < a1
    · simp [h]; omega
    · simp [h]; omega
  have HN : Hid (a1 ≠ a3) := hne
  have HN' : Hid (a3 ≠ a1) := Ne.symm hne
  have HB : Hid (decide (a3 < a1) = b) := hb
  have HB' : Hid (decide (a1 < a3) = !b) := hb'
  have W0 : Hid (IsRow .u8 w a0 len0 cap0 z0) := w0
  have W2 : Hid (IsRow .u8 w a2 len2 cap2 z2) := w2
  clear hne hb hb' w0 w2
  go_enter Try.func5, Try.ntmps5
  go_wp2_with (first | (go_at_call 10; go_in) | (go_at_call 11; refine (clone_any a0 len0 cap0 z0 _ hl0 W0.out).mono ?_))
  rintro e w1 ⟨v1, rfl, hB1, hb1⟩
  go_wp2_with (go_at_call 11; refine (clone_any a2 len2 cap2 z2 _ hl2 (W2.out.below hb1)).mono ?_)
  rintro e w2 ⟨v2, rfl, hB2, hb2⟩
  have hB1' := hB1.below hb2
  go_wp2_with (go_at_call 12; refine (newer_ne v1 v2 _ _ a1 a3 _ hB1' hB2 HN.out b HB.out).mono ?_)
  rintro e w3 ⟨rfl, hb3⟩
  try intro hb3
  have hB1'' := hB1'.below hb3
  have hB2' := hB2.below hb3
  go_wp2_with (go_at_call 12; refine (newer_ne v2 v1 _ _ a3 a1 _ hB2' hB1'' HN'.out (!b) HB'.out).mono ?_)
  rintro e w4 ⟨rfl, hb4⟩
  try intro hb4
  have ht : Below w.heap.size w w4 := hb1.trans ((hb2.trans ((hb3.trans (hb4.mono hb3.size)).mono hb2.size)).mono hb1.size)
  clear hB1 hB1' hB1'' hB2 hB2' hb1 hb2 hb3 hb4
  cases b
  all_goals
    go_wp2
    go_ret
    exact ⟨rfl, ht⟩

set_option maxHeartbeats 3200000 in
set_option maxRecDepth 100000 in
/-- The main road, the versions one: by the bytes. -/
theorem walk_eq (a0 : Option Addr) (len0 cap0 : Nat) (z0 : List Int) (a1 : Int) (a2 : Option Addr) (len2 cap2 : Nat) (z2 : List Int) (w : World) (w0 : IsRow .u8 w a0 len0 cap0 z0) (w2 : IsRow .u8 w a2 len2 cap2 z2)
    (hl0 : len0 ≤ 524288) (hl2 : len2 ≤ 524288) (hs : len0 + len2 ≤ 1048576) (hn0 : len0 ≤ z0.length) (b1 b2 b3 : Bool) (h1 : decide (0 < Lib.compareBytes (bytesL z0 len0) (bytesL z2 len2)) = b1) (h2 : decide (0 < Lib.compareBytes (bytesL z2 len2) (bytesL z0 len0)) = b2)
    (h3 : decide (bytesL z0 len0 = bytesL z2 len2) = b3) (hc : (b1 = true ∧ b2 = false ∧ b3 = false) ∨ (b1 = false ∧ b2 = true ∧ b3 = false) ∨ (b1 = false ∧ b2 = false ∧ b3 = true)) :
    Calls Try.prog 5 #[.slice a0 len0 cap0, .int .u64 a1, .slice a2 len2 cap2, .int .u64 a1] w fun e w' => e = .returned (.bool true) ∧ Below w.heap.size w w' := by
  have hq : (a1 == a1) = true := by simp
  have H1 : Hid (decide (0 < Lib.compareBytes (bytesL z0 len0) (bytesL z2 len2)) = b1) := h1
  have H2 : Hid (decide (0 < Lib.compareBytes (bytesL z2 len2) (bytesL z0 len0)) = b2) := h2
  have H3 : Hid (decide (bytesL z0 len0 = bytesL z2 len2) = b3) := h3
  have HL : Hid ((bytesL z0 len0).length ≤ 524288) := by show _ ≤ _; rw [bytesL_length z0 len0 hn0]; exact hl0
  have W0 : Hid (IsRow .u8 w a0 len0 cap0 z0) := w0
  have W2 : Hid (IsRow .u8 w a2 len2 cap2 z2) := w2
  clear h1 h2 h3 w0 w2
  rcases hc with ⟨rfl, rfl, rfl⟩ | ⟨rfl, rfl, rfl⟩ | ⟨rfl, rfl, rfl⟩
  all_goals
    go_enter Try.func5, Try.ntmps5
    go_wp2_with (first | (go_at_call 10; go_in) | (go_at_call 11; refine (clone_any a0 len0 cap0 z0 _ hl0 W0.out).mono ?_))
    rintro e w1 ⟨v1, rfl, hB1, hb1⟩
    go_wp2_with (go_at_call 11; refine (clone_any a2 len2 cap2 z2 _ hl2 (W2.out.below hb1)).mono ?_)
    rintro e w2 ⟨v2, rfl, hB2, hb2⟩
    have hB1' := hB1.below hb2
    go_wp2_with (go_at_call 12; refine (newer_eq v1 v2 _ _ a1 _ hB1' hB2 _ H1.out).mono ?_)
    rintro e w3 ⟨rfl, hb3⟩
    try intro hb3
    have hB1'' := hB1'.below hb3
    have hB2' := hB2.below hb3
    go_wp2_with (go_at_call 12; refine (newer_eq v2 v1 _ _ a1 _ hB2' hB1'' _ H2.out).mono ?_)
    rintro e w4 ⟨rfl, hb4⟩
    try intro hb4
    have hB13 := hB1''.below hb4
    have hB23 := hB2'.below hb4
    go_wp2_with (go_at_call 13; refine (equal_any v1 v2 _ _ _ HL.out hB13 hB23 _ H3.out).mono ?_)
    rintro e w5 ⟨rfl, hb5⟩
    try intro hb5
    have ht : Below w.heap.size w w5 := hb1.trans ((hb2.trans ((hb3.trans ((hb4.trans (hb5.mono hb4.size)).mono hb3.size)).mono hb2.size)).mono hb1.size)
    clear hB1 hB1' hB1'' hB2 hB2' hB13 hB23 hb1 hb2 hb3 hb4 hb5
    go_wp2
    go_ret
    exact ⟨rfl, ht⟩

set_option maxHeartbeats 1600000 in
theorem walk (a0 : Option Addr) (len0 cap0 : Nat) (z0 : List Int) (a1 : Int) (a2 : Option Addr) (len2 cap2 : Nat) (z2 : List Int) (a3 : Int) (w : World) (w0 : IsRow .u8 w a0 len0 cap0 z0) (w1 : (Lit.int .u64 a1).wf = true) (w2 : IsRow .u8 w a2 len2 cap2 z2) (w3 : (Lit.int .u64 a3).wf = true) :
    Calls Try.prog 5 #[.slice a0 len0 cap0, .int .u64 a1, .slice a2 len2 cap2, .int .u64 a3] w fun e w' => e = .returned (.bool true) ∧ Below w.heap.size w w' := by
  clear w1 w3
  have b0 : len0 ≤ 9223372036854775807 ∧ len0 ≤ z0.length := by
    rcases w0 with ⟨_, h, _, h'⟩ | ⟨_, _, h1, h2, h3, _⟩
    · rw [h]; omega
    · unfold maxLen at h2; omega
  have b2 : len2 ≤ 9223372036854775807 ∧ len2 ≤ z2.length := by
    rcases w2 with ⟨_, h, _, h'⟩ | ⟨_, _, h1, h2, h3, _⟩
    · rw [h]; omega
    · unfold maxLen at h2; omega
  obtain ⟨b0, n0⟩ := b0
  obtain ⟨b2, n2⟩ := b2
  by_cases hmain : len0 ≤ 524288 ∧ len2 ≤ 524288
  · by_cases hv : a1 = a3
    · subst hv
      refine walk_eq a0 len0 cap0 z0 a1 a2 len2 cap2 z2 w w0 w2 hmain.1 hmain.2 (by omega) n0 _ _ _ rfl rfl rfl ?_
      have e1 := cmp_anti (bytesL z0 len0) (bytesL z2 len2)
      have e2 := cmp_zero (bytesL z0 len0) (bytesL z2 len2)
      rw [e1]
      by_cases hz : Lib.compareBytes (bytesL z0 len0) (bytesL z2 len2) = 0
      · exact .inr (.inr ⟨decide_eq_false (by omega), decide_eq_false (by omega), decide_eq_true (e2.1 hz)⟩)
      · have he : ¬ bytesL z0 len0 = bytesL z2 len2 := fun h => hz (e2.2 h)
        by_cases hp : 0 < Lib.compareBytes (bytesL z0 len0) (bytesL z2 len2)
        · refine .inl ⟨decide_eq_true hp, decide_eq_false (by omega), decide_eq_false he⟩
        · refine .inr (.inl ⟨decide_eq_false hp, decide_eq_true (by omega), decide_eq_false he⟩)
    · exact walk_ne a0 len0 cap0 z0 a1 a2 len2 cap2 z2 a3 w w0 w2 hmain.1 hmain.2 (by omega) _ hv rfl
  · clear w0 w2 n0 n2
    rcases (show 1048576 < len0 ∨ (len0 ≤ 1048576 ∧ 1048576 < len2) ∨ (len0 ≤ 1048576 ∧ len2 ≤ 1048576 ∧ 1048576 < len0 + len2) ∨ (len0 + len2 ≤ 1048576 ∧ 524288 < len0) ∨ (len0 + len2 ≤ 1048576 ∧ len0 ≤ 524288 ∧ 524288 < len2) by omega) with h | ⟨h, h'⟩ | ⟨h, h', h''⟩ | ⟨h, h'⟩ | ⟨h, h', h''⟩
    all_goals
      clear hmain
      go_enter Try.func5, Try.ntmps5
      go_wp2
      go_ret
      exact ⟨rfl, Below.refl _ _⟩

/-! ### THE ROW's STEP: WRITTEN OUT: LEAVE IT -/
set_option maxRecDepth 100000 in
theorem lifted (os : Os) (started : os.Started) (H : Type) (enc : TypeId × Value → H) :
    ReturnsInHanded {} Try.checked os 5 .any (Rows.fnNewerTrichotomySpec.pre6 enc Try.prog Try.f5 Rows.fnNewerTrichotomyRow.domain false) (Rows.fnNewerTrichotomySpec.post enc Try.prog Try.f5 false true false false) := by
  refine returnsInHanded_of_change (C := Try.checked) own started (by kernel_rfl) Try.func5
    (ChangeSpec.witness6 (enc := enc) (C := Try.checked) false ⟨#[], #[.slice none 0 0, .int .u64 0, .slice none 0 0, .int .u64 0], []⟩ 8 (by kernel_rfl) (by kernel_rfl) (by kernel_rfl) (by kernel_rfl)) ?_
  intro W base args ds gs before hval0 hW hcnd _
  have hval : ∀ (j : Nat) t v, Try.f5.params[j]? = some t → args[j]? = some v → Value.okWide Try.prog W .any base t v := hval0
  have hW' := hW
  obtain ⟨p, q, hA0, hV, rfl, hfz, hnd⟩ := hW
  have hA : DataW.TrodAll enc Try.prog W 0 (fun _ => true) true Try.f5.params.toList args.toList ds p := hA0
  rw [Try.params5] at hA hval
  obtain ⟨v0, vs0, d0, ds0, p0, q0, hargs, rfl, rfl, h0, r0⟩ := trodAll_cons hA
  obtain ⟨v1, vs1, d1, ds1, p1, q1, rfl, rfl, rfl, h1, r1⟩ := trodAll_cons r0
  obtain ⟨v2, vs2, d2, ds2, p2, q2, rfl, rfl, rfl, h2, r2⟩ := trodAll_cons r1
  obtain ⟨v3, vs3, d3, ds3, p3, q3, rfl, rfl, rfl, h3, r3⟩ := trodAll_cons r2
  obtain ⟨rfl, rfl, rfl⟩ := trodAll_nil r3
  obtain rfl : args = #[v0, v1, v2, v3] := by cases args; simp_all
  obtain ⟨rfl, rfl⟩ := trodVars_none hV
  obtain ⟨a0, len0, cap0, rfl⟩ := okWide_slice Try.underlying29 (hval 0 29 v0 rfl rfl)
  have k0 := h0
  have lt0 : ∀ x ∈ p0, x.block < W.heap.size := by obtain ⟨m, hm⟩ := k0; exact DataW.trod_lt m _ _ _ hm
  obtain ⟨z0, w0⟩ : ∃ zs, IsRow .u8 W a0 len0 cap0 zs := by
    obtain ⟨fuel, hf⟩ := h0
    rcases open_ints Try.underlying29 Try.underlying5 (by kernel_rfl) hf with ⟨hcs, _⟩ | ⟨x, l, c, zs, hcs, _, hl, hm, hz, _, hcell, hwz⟩
    · simp [Value.cells] at hcs
      obtain ⟨rfl, rfl, rfl⟩ := hcs
      exact ⟨[], .inl ⟨rfl, rfl, rfl, rfl⟩⟩
    · simp [Value.cells] at hcs
      obtain ⟨rfl, rfl, rfl⟩ := hcs
      exact ⟨zs, .inr ⟨_, rfl, hl, hm, by simpa using hz, hcell, hwz⟩⟩
  obtain ⟨a1, rfl, rfl, rfl, w1⟩ := open_int Try.underlying30 (hval 1 30 v1 rfl rfl) h1
  obtain ⟨a2, len2, cap2, rfl⟩ := okWide_slice Try.underlying29 (hval 2 29 v2 rfl rfl)
  have k2 := h2
  have lt2 : ∀ x ∈ p2, x.block < W.heap.size := by obtain ⟨m, hm⟩ := k2; exact DataW.trod_lt m _ _ _ hm
  obtain ⟨z2, w2⟩ : ∃ zs, IsRow .u8 W a2 len2 cap2 zs := by
    obtain ⟨fuel, hf⟩ := h2
    rcases open_ints Try.underlying29 Try.underlying5 (by kernel_rfl) hf with ⟨hcs, _⟩ | ⟨x, l, c, zs, hcs, _, hl, hm, hz, _, hcell, hwz⟩
    · simp [Value.cells] at hcs
      obtain ⟨rfl, rfl, rfl⟩ := hcs
      exact ⟨[], .inl ⟨rfl, rfl, rfl, rfl⟩⟩
    · simp [Value.cells] at hcs
      obtain ⟨rfl, rfl, rfl⟩ := hcs
      exact ⟨zs, .inr ⟨_, rfl, hl, hm, by simpa using hz, hcell, hwz⟩⟩
  obtain ⟨a3, rfl, rfl, rfl, w3⟩ := open_int Try.underlying30 (hval 3 30 v3 rfl rfl) h3
  clear hA0 hval0
  refine (walk a0 len0 cap0 z0 a1 a2 len2 cap2 z2 a3 W w0 w1 w2 w3).mono fun e W' ⟨he, bel⟩ => ?_
  subst he
  exact ⟨_, rfl, _, _, _, [], _, [], hW', trodAll_mk1 (shut_bool Try.underlying4 _), (trodAll_cons_mk (Below.trod laidOut (by kernel_rfl) (of_decide_eq_true (by kernel_rfl)) k0 bel lt0) (trodAll_cons_mk (shut_int Try.underlying30 w1) (trodAll_cons_mk (Below.trod laidOut (by kernel_rfl) (of_decide_eq_true (by kernel_rfl)) k2 bel lt2) (trodAll_cons_mk (shut_int Try.underlying30 w3) trodAll_mk0)))), rfl, bel.frame _, fun h => by cases h⟩

theorem over : Rows.fnNewerTrichotomyRow.holds Try.pinned (OpenSpec.ofChange Rows.fnNewerTrichotomySpec) :=
  OpenClaim.holds_of_wide 5 Try.f5 rfl rfl rfl rfl rfl rfl rfl ⟨rfl, rfl, rfl, rfl, rfl⟩ rfl rfl rfl rfl rfl (by kernel_rfl) Try.func5 (by kernel_rfl)
    (of_decide_eq_true (by kernel_rfl)) (by unfold Func.isWrapper; first | (rw [if_pos (by decide +kernel)]; kernel_rfl) | (rw [if_neg (by decide +kernel)]; exact ⟨rfl, rfl⟩))
    (fun os started H enc _ => lifted os started H enc)

/-- ████ THE STATEMENT ████ -/
theorem proved : Rows.FnNewerTrichotomySaid := over
end Go.Proofs.Qxb6604285a.fnNewerTrichotomy
