/-
  The walks of zzHexDigit_store_b1 (14) and zzParseModel_store_b1 (10): the hand parser gives 'pn' too.
-/
import Derived.Test.Qxb6600857aDoorName
namespace Go.Proofs.Qxb6600857aDoor
open Go.RowKit Plain

/-- What zzHexDigit hands back. -/
def hdTuple : Option Nat → Value
  | some d => .tuple #[.int .u8 d, .bool true]
  | none => .tuple #[.int .u8 0, .bool false]

theorem hexv_part (c : UInt8) : (48 ≤ c.toNat ∧ c.toNat ≤ 57 ∧ hexv c = some (c.toNat - 48)) ∨ (97 ≤ c.toNat ∧ c.toNat ≤ 102 ∧ hexv c = some (c.toNat - 87)) ∨ (65 ≤ c.toNat ∧ c.toNat ≤ 70 ∧ hexv c = some (c.toNat - 55)) ∨
    ((c.toNat < 48 ∨ (57 < c.toNat ∧ c.toNat < 65) ∨ (70 < c.toNat ∧ c.toNat < 97) ∨ 102 < c.toNat) ∧ hexv c = none) := by
  unfold hexv
  by_cases h1 : 48 ≤ c.toNat ∧ c.toNat ≤ 57
  · exact .inl ⟨h1.1, h1.2, by rw [if_pos h1]⟩
  by_cases h2 : 97 ≤ c.toNat ∧ c.toNat ≤ 102
  · exact .inr (.inl ⟨h2.1, h2.2, by rw [if_neg h1, if_pos h2]⟩)
  by_cases h3 : 65 ≤ c.toNat ∧ c.toNat ≤ 70
  · exact .inr (.inr (.inl ⟨h3.1, h3.2, by rw [if_neg h1, if_neg h2, if_pos h3]⟩))
  · exact .inr (.inr (.inr ⟨by omega, by rw [if_neg h1, if_neg h2, if_neg h3]⟩))

theorem ret_hd {a b : Int} (h : a = b) : Ending.returned (.tuple #[.int .u8 a, .bool true]) = .returned (.tuple #[.int .u8 b, .bool true]) := by rw [h]

set_option maxHeartbeats 1000000 in
theorem hexDigit_any (c : UInt8) (w : World) : Calls Tryd.prog 14 #[.int .u8 c.toNat] w fun e w' => e = .returned (hdTuple (hexv c)) ∧ w' = w := by
  have hc := c.toNat_lt
  rcases hexv_part c with ⟨h1, h2, h3⟩ | ⟨h1, h2, h3⟩ | ⟨h1, h2, h3⟩ | ⟨h1, h3⟩
  · rw [h3]
    clear h3
    go_enter Tryd.func14, Tryd.ntmps14
    go_wp2
    go_ret2
    exact ⟨ret_hd (by omega), rfl⟩
  · rw [h3]
    clear h3
    go_enter Tryd.func14, Tryd.ntmps14
    go_wp2
    go_ret2
    exact ⟨ret_hd (by omega), rfl⟩
  · rw [h3]
    clear h3
    go_enter Tryd.func14, Tryd.ntmps14
    go_wp2
    go_ret2
    exact ⟨ret_hd (by omega), rfl⟩
  · rw [h3]
    clear h3
    rcases h1 with h1 | ⟨h1, h2⟩ | ⟨h1, h2⟩ | h1
    all_goals
      go_enter Tryd.func14, Tryd.ntmps14
      go_wp2
      go_ret2
      exact ⟨rfl, rfl⟩

theorem pn_len (s p : List UInt8) (h : s.length ≠ p.length + 16) : pn s p = (0, false) := by
  unfold pn
  rw [if_neg]
  rintro ⟨h1, h2⟩
  have hle : p.length ≤ s.length := by
    have h := Lib.hasPrefix_of_take s p
    rw [h1, Bool.and_eq_true] at h
    exact of_decide_eq_true h.1
  rw [show Lib.trimPrefix s p = s.drop p.length by simp [Lib.trimPrefix, h1], List.length_drop] at h2
  omega
theorem pn_no (s p : List UInt8) (h : Lib.hasPrefix s p = false) : pn s p = (0, false) := by
  unfold pn
  rw [if_neg (by rw [h]; simp)]
theorem pn_yes (s p : List UInt8) (h : Lib.hasPrefix s p = true) (hl : s.length = p.length + 16) : pn s p = parse16 (s.drop p.length) := by
  unfold pn
  rw [show Lib.trimPrefix s p = s.drop p.length by simp [Lib.trimPrefix, h], if_pos ⟨h, by rw [List.length_drop]; omega⟩]

/-- The loop's relation at its start, one digit on. -/
theorem drop_at (t : ByteArray) (k : Nat) (h : k < t.size) : t.data.toList.drop k = t[k] :: t.data.toList.drop (k + 1) := by
  have h' : k < t.data.toList.length := by simpa using h
  rw [List.drop_eq_getElem_cons h']
  rfl

set_option maxHeartbeats 4000000 in
set_option maxRecDepth 100000 in
theorem model_any (s p : ByteArray) (w : World) (hs : s.size ≤ 1048576) (hp : p.size ≤ 1048576) :
    Calls Tryd.prog 10 #[.string s, .string p] w fun e w' => e = .returned (.tuple #[.int .i64 (pn s.data.toList p.data.toList).1, .bool (pn s.data.toList p.data.toList).2]) ∧ w' = w := by
  by_cases hl : s.size = p.size + 16
  · have hraw := Lib.hasPrefix_raw s p
    rw [decide_eq_true (by omega), Bool.true_and] at hraw
    cases hq : (s.extract 0 p.size).toList == p.toList with
    | false =>
      rw [hq] at hraw
      rw [pn_no _ _ hraw.symm]
      have hne : ((s.size : Int) != (p.size : Int) + 16) = false := by rw [bne_eq_false_iff_eq]; omega
      have hle : p.size ≤ s.size := by omega
      clear hraw hl
      go_enter Tryd.func10, Tryd.ntmps10
      go_wp2
      go_ret2
      exact ⟨rfl, rfl⟩
    | true =>
      rw [hq] at hraw
      rw [pn_yes _ _ hraw.symm (by rw [← Lib.size_eq, ← Lib.size_eq]; exact hl)]
      have hle : p.size ≤ s.size := by omega
      have hne : ((s.size : Int) != (p.size : Int) + 16) = false := by rw [bne_eq_false_iff_eq]; omega
      have hsl : ∀ W, (Instr.slice 9 (.string s) (some (.int .i64 p.size)) none none).run Tryd.prog W = .ok (.string (s.extract p.size s.size)) W := fun W => by
        rw [run_slice_string_from_if W 9 s .i64 _ Tryd.underlying9, if_pos ⟨by omega, by omega⟩]
        rfl
      have htl : (s.extract p.size s.size).data.toList = s.data.toList.drop p.data.toList.length := by
        rw [Lib.extract_data, ← Lib.size_eq, List.take_of_length_le (by rw [List.length_drop, ← Lib.size_eq]; omega)]
      have hts : (s.extract p.size s.size).size = 16 := by rw [Lib.size_eq, htl, List.length_drop, ← Lib.size_eq, ← Lib.size_eq]; omega
      rw [← htl]
      generalize s.extract p.size s.size = t at hsl hts ⊢
      clear htl hraw hl
      have hT : t.data.toList = t[0] :: t.data.toList.drop 1 := drop_at t 0 (by omega)
      by_cases h43 : t[0] = 43
      · have n43 : ((t[0].toNat : Int) == 43) = true := by rw [h43]; rfl
        have hp2 : parse16 t.data.toList = sgn false (hx 0 (t.data.toList.drop 1)) := by rw [hT]; simp only [parse16]; rw [if_pos h43, ← hT]
        rw [hp2]
        have HP : Hid (t.data.toList.length = 16) := by show _ = _; rw [← Lib.size_eq]; exact hts
        clear hp2 hT
        generalize hR : sgn false (hx 0 (t.data.toList.drop 1)) = R
        have HR : Hid (sgn false (hx 0 (t.data.toList.drop 1)) = R) := hR
        clear hR
        go_enter Tryd.func10, Tryd.ntmps10
        go_wp2
        go_loop [9, 10] (fun v i => ∃ (k acc : Nat) (a : Int), 1 ≤ k ∧ k ≤ 16 ∧ v = .int .u64 a ∧ i = .int .i64 k ∧ 0 ≤ a ∧ a < 18446744073709551616 ∧ Hid (a = (acc : Int) ∧ acc < 16 ^ (k - 1) ∧ hx 0 (t.data.toList.drop 1) = hx acc (t.data.toList.drop k))) (fun _ i => 16 - (intOf i).toNat)
        case atStart => exact ⟨1, 0, 0, by omega, by omega, rfl, rfl, by omega, by omega, rfl, by simp, rfl⟩
        case round =>
          obtain ⟨k, acc, a, hk0, hk, rfl, rfl, a0, a1, hh⟩ := hrel
          obtain ⟨ha, hacc, hdec⟩ := hh.out
          clear hh
          by_cases hlt : k < 16
          · have hkt : k < t.size := by omega
            rw [drop_at t k hkt] at hdec
            have hC := fun W => hexDigit_any t[k] W
            have hpw : 16 ^ (k - 1) ≤ 16 ^ 15 := Nat.pow_le_pow_right (by omega) (by omega)
            have a2 : a < 1152921504606846976 := by omega
            clear hpw
            cases hv : hexv t[k] with
            | none =>
              have HZ : Hid (R = (0, false)) := by show _ = _; rw [← HR.out, hdec]; simp only [hx, hv]; rfl
              rw [hv] at hC
              have hC' : ∀ W, Calls Tryd.prog 14 #[.int .u8 t[k].toNat] W fun e w' => e = .returned (.tuple #[.int .u8 0, .bool false]) ∧ w' = W := hC
              clear hC hv hdec ha hacc
              go_wp2_with (go_at_call 14; refine (hC' _).mono ?_; rintro e w' ⟨rfl, rfl⟩)
              go_ret2
              rw [HZ.out]
              exact ⟨rfl, rfl⟩
            | some d =>
              have hd16 := hexv_lt _ d hv
              rw [hv] at hC
              obtain ⟨di, hdi⟩ : ∃ di : Int, di = (d : Int) := ⟨_, rfl⟩
              have hC' : ∀ W, Calls Tryd.prog 14 #[.int .u8 t[k].toNat] W fun e w' => e = .returned (.tuple #[.int .u8 di, .bool true]) ∧ w' = W := by rw [hdi]; exact hC
              have d0 : 0 ≤ di := by omega
              have d1 : di < 16 := by omega
              have HN : Hid (a * 16 + di = ((acc * 16 + d : Nat) : Int) ∧ acc * 16 + d < 16 ^ (k + 1 - 1) ∧ hx 0 (t.data.toList.drop 1) = hx (acc * 16 + d) (t.data.toList.drop (k + 1))) := by
                refine ⟨by omega, ?_, ?_⟩
                · rw [show k + 1 - 1 = (k - 1) + 1 by omega, Nat.pow_succ]; omega
                · rw [hdec]; simp only [hx, hv]
              clear hC hv hdec ha hacc hdi hd16
              go_wp2_with (go_at_call 14; refine (hC' _).mono ?_; rintro e w' ⟨rfl, rfl⟩)
              go_round
              case rel => exact ⟨k + 1, acc * 16 + d, a * 16 + di, by omega, by omega, rfl, by go_num, by omega, by omega, HN⟩
              case measure => simp [intOf]; omega
          · obtain rfl : k = 16 := by omega
            rw [show t.data.toList.drop 16 = [] from List.drop_eq_nil_of_le (by rw [HP.out]; omega)] at hdec
            have hr0 : sgn false (some acc) = R := by rw [← HR.out, hdec]; rfl
            have hacc' : acc < 16 ^ 15 := hacc
            clear hacc hdec
            have HZ : Hid (R = (a, true)) := by show _ = _; rw [← hr0, ha]; rfl
            have a2 : a < 1152921504606846976 := by omega
            clear hr0 hacc' ha
            go_wp2
            go_ret2
            rw [HZ.out]
            exact ⟨rfl, rfl⟩
      · by_cases h45 : t[0] = 45
        · have n43 : ((t[0].toNat : Int) == 43) = false := by rw [h45]; rfl
          have n45 : ((t[0].toNat : Int) == 45) = true := by rw [h45]; rfl
          have hp2 : parse16 t.data.toList = sgn true (hx 0 (t.data.toList.drop 1)) := by rw [hT]; simp only [parse16]; rw [if_neg h43, if_pos h45, ← hT]
          rw [hp2]
          have HP : Hid (t.data.toList.length = 16) := by show _ = _; rw [← Lib.size_eq]; exact hts
          clear hp2 hT
          generalize hR : sgn true (hx 0 (t.data.toList.drop 1)) = R
          have HR : Hid (sgn true (hx 0 (t.data.toList.drop 1)) = R) := hR
          clear hR
          go_enter Tryd.func10, Tryd.ntmps10
          go_wp2
          go_loop [9, 10] (fun v i => ∃ (k acc : Nat) (a : Int), 1 ≤ k ∧ k ≤ 16 ∧ v = .int .u64 a ∧ i = .int .i64 k ∧ 0 ≤ a ∧ a < 18446744073709551616 ∧ Hid (a = (acc : Int) ∧ acc < 16 ^ (k - 1) ∧ hx 0 (t.data.toList.drop 1) = hx acc (t.data.toList.drop k))) (fun _ i => 16 - (intOf i).toNat)
          case atStart => exact ⟨1, 0, 0, by omega, by omega, rfl, rfl, by omega, by omega, rfl, by simp, rfl⟩
          case round =>
            obtain ⟨k, acc, a, hk0, hk, rfl, rfl, a0, a1, hh⟩ := hrel
            obtain ⟨ha, hacc, hdec⟩ := hh.out
            clear hh
            by_cases hlt : k < 16
            · have hkt : k < t.size := by omega
              rw [drop_at t k hkt] at hdec
              have hC := fun W => hexDigit_any t[k] W
              have hpw : 16 ^ (k - 1) ≤ 16 ^ 15 := Nat.pow_le_pow_right (by omega) (by omega)
              have a2 : a < 1152921504606846976 := by omega
              clear hpw
              cases hv : hexv t[k] with
              | none =>
                have HZ : Hid (R = (0, false)) := by show _ = _; rw [← HR.out, hdec]; simp only [hx, hv]; rfl
                rw [hv] at hC
                have hC' : ∀ W, Calls Tryd.prog 14 #[.int .u8 t[k].toNat] W fun e w' => e = .returned (.tuple #[.int .u8 0, .bool false]) ∧ w' = W := hC
                clear hC hv hdec ha hacc
                go_wp2_with (go_at_call 14; refine (hC' _).mono ?_; rintro e w' ⟨rfl, rfl⟩)
                go_ret2
                rw [HZ.out]
                exact ⟨rfl, rfl⟩
              | some d =>
                have hd16 := hexv_lt _ d hv
                rw [hv] at hC
                obtain ⟨di, hdi⟩ : ∃ di : Int, di = (d : Int) := ⟨_, rfl⟩
                have hC' : ∀ W, Calls Tryd.prog 14 #[.int .u8 t[k].toNat] W fun e w' => e = .returned (.tuple #[.int .u8 di, .bool true]) ∧ w' = W := by rw [hdi]; exact hC
                have d0 : 0 ≤ di := by omega
                have d1 : di < 16 := by omega
                have HN : Hid (a * 16 + di = ((acc * 16 + d : Nat) : Int) ∧ acc * 16 + d < 16 ^ (k + 1 - 1) ∧ hx 0 (t.data.toList.drop 1) = hx (acc * 16 + d) (t.data.toList.drop (k + 1))) := by
                  refine ⟨by omega, ?_, ?_⟩
                  · rw [show k + 1 - 1 = (k - 1) + 1 by omega, Nat.pow_succ]; omega
                  · rw [hdec]; simp only [hx, hv]
                clear hC hv hdec ha hacc hdi hd16
                go_wp2_with (go_at_call 14; refine (hC' _).mono ?_; rintro e w' ⟨rfl, rfl⟩)
                go_round
                case rel => exact ⟨k + 1, acc * 16 + d, a * 16 + di, by omega, by omega, rfl, by go_num, by omega, by omega, HN⟩
                case measure => simp [intOf]; omega
            · obtain rfl : k = 16 := by omega
              rw [show t.data.toList.drop 16 = [] from List.drop_eq_nil_of_le (by rw [HP.out]; omega)] at hdec
              have hr0 : sgn true (some acc) = R := by rw [← HR.out, hdec]; rfl
              have hacc' : acc < 16 ^ 15 := hacc
              clear hacc hdec
              have HZ : Hid (R = (-a, true)) := by show _ = _; rw [← hr0, ha]; rfl
              have a2 : a < 1152921504606846976 := by omega
              clear hr0 hacc' ha
              go_wp2
              go_ret2
              rw [HZ.out]
              exact ⟨rfl, rfl⟩
  
        · have n43 : ((t[0].toNat : Int) == 43) = false := by rw [beq_eq_false_iff_ne]; intro h; exact h43 (UInt8.toNat_inj.1 (by have : (43 : UInt8).toNat = 43 := rfl; omega))
          have n45 : ((t[0].toNat : Int) == 45) = false := by rw [beq_eq_false_iff_ne]; intro h; exact h45 (UInt8.toNat_inj.1 (by have : (45 : UInt8).toNat = 45 := rfl; omega))
          have hp2 : parse16 t.data.toList = uns (hx 0 (t.data.toList.drop 0)) := by rw [List.drop_zero, hT]; simp only [parse16]; rw [if_neg h43, if_neg h45, ← hT]
          rw [hp2]
          have HP : Hid (t.data.toList.length = 16) := by show _ = _; rw [← Lib.size_eq]; exact hts
          clear hp2 hT
          generalize hR : uns (hx 0 (t.data.toList.drop 0)) = R
          have HR : Hid (uns (hx 0 (t.data.toList.drop 0)) = R) := hR
          clear hR
          go_enter Tryd.func10, Tryd.ntmps10
          go_wp2
          go_loop [9, 10] (fun v i => ∃ (k acc : Nat) (a : Int), 0 ≤ k ∧ k ≤ 16 ∧ v = .int .u64 a ∧ i = .int .i64 k ∧ 0 ≤ a ∧ a < 18446744073709551616 ∧ Hid (a = (acc : Int) ∧ acc < 16 ^ (k - 0) ∧ hx 0 (t.data.toList.drop 0) = hx acc (t.data.toList.drop k))) (fun _ i => 16 - (intOf i).toNat)
          case atStart => exact ⟨0, 0, 0, by omega, by omega, rfl, rfl, by omega, by omega, rfl, by simp, rfl⟩
          case round =>
            obtain ⟨k, acc, a, hk0, hk, rfl, rfl, a0, a1, hh⟩ := hrel
            obtain ⟨ha, hacc, hdec⟩ := hh.out
            clear hh
            by_cases hlt : k < 16
            · have hkt : k < t.size := by omega
              rw [drop_at t k hkt] at hdec
              have hC := fun W => hexDigit_any t[k] W
              have hpw : 16 ^ (k - 0) ≤ 16 ^ 15 := Nat.pow_le_pow_right (by omega) (by omega)
              have a2 : a < 1152921504606846976 := by omega
              clear hpw
              cases hv : hexv t[k] with
              | none =>
                have HZ : Hid (R = (0, false)) := by show _ = _; rw [← HR.out, hdec]; simp only [hx, hv]; rfl
                rw [hv] at hC
                have hC' : ∀ W, Calls Tryd.prog 14 #[.int .u8 t[k].toNat] W fun e w' => e = .returned (.tuple #[.int .u8 0, .bool false]) ∧ w' = W := hC
                clear hC hv hdec ha hacc
                go_wp2_with (go_at_call 14; refine (hC' _).mono ?_; rintro e w' ⟨rfl, rfl⟩)
                go_ret2
                rw [HZ.out]
                exact ⟨rfl, rfl⟩
              | some d =>
                have hd16 := hexv_lt _ d hv
                rw [hv] at hC
                obtain ⟨di, hdi⟩ : ∃ di : Int, di = (d : Int) := ⟨_, rfl⟩
                have hC' : ∀ W, Calls Tryd.prog 14 #[.int .u8 t[k].toNat] W fun e w' => e = .returned (.tuple #[.int .u8 di, .bool true]) ∧ w' = W := by rw [hdi]; exact hC
                have d0 : 0 ≤ di := by omega
                have d1 : di < 16 := by omega
                have HN : Hid (a * 16 + di = ((acc * 16 + d : Nat) : Int) ∧ acc * 16 + d < 16 ^ (k + 1 - 0) ∧ hx 0 (t.data.toList.drop 0) = hx (acc * 16 + d) (t.data.toList.drop (k + 1))) := by
                  refine ⟨by omega, ?_, ?_⟩
                  · rw [show k + 1 - 0 = (k - 0) + 1 by omega, Nat.pow_succ]; omega
                  · rw [hdec]; simp only [hx, hv]
                clear hC hv hdec ha hacc hdi hd16
                go_wp2_with (go_at_call 14; refine (hC' _).mono ?_; rintro e w' ⟨rfl, rfl⟩)
                go_round
                case rel => exact ⟨k + 1, acc * 16 + d, a * 16 + di, by omega, by omega, rfl, by go_num, by omega, by omega, HN⟩
                case measure => simp [intOf]; omega
            · obtain rfl : k = 16 := by omega
              rw [show t.data.toList.drop 16 = [] from List.drop_eq_nil_of_le (by rw [HP.out]; omega)] at hdec
              have hr0 : uns (some acc) = R := by rw [← HR.out, hdec]; rfl
              have hacc' : acc < 16 ^ 16 := hacc
              clear hacc hdec
              by_cases hbig : acc < 9223372036854775808
              · have HZ : Hid (R = (a, true)) := by show _ = _; rw [← hr0, ha]; simp only [uns]; rw [if_pos hbig]
                have a2 : a < 9223372036854775808 := by omega
                clear hr0 hacc' ha hbig
                go_wp2
                go_ret2
                rw [HZ.out]
                exact ⟨rfl, rfl⟩
              · have HZ : Hid (R = (9223372036854775807, false)) := by show _ = _; rw [← hr0]; simp only [uns]; rw [if_neg hbig]
                have a2 : 9223372036854775808 ≤ a := by omega
                clear hr0 hacc' ha hbig
                go_wp2
                go_ret2
                rw [HZ.out]
                exact ⟨rfl, rfl⟩
  · rw [pn_len _ _ (by rw [← Lib.size_eq, ← Lib.size_eq]; exact hl)]
    have hne : ((s.size : Int) != (p.size : Int) + 16) = true := by rw [bne_iff_ne]; omega
    clear hl
    go_enter Tryd.func10, Tryd.ntmps10
    go_wp2
    go_ret2
    exact ⟨rfl, rfl⟩
end Go.Proofs.Qxb6600857aDoor
