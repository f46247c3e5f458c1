/-
  The walk of zzCandidate (8): 'cand'.
-/
import Derived.Test.Qxb6604285aCand
import Derived.Test.Qxb6604285aRender
namespace Go.Proofs.Qxb6604285a
open Go.RowKit Plain

theorem get_at (s : ByteArray) (k : Nat) (h : k < s.size) : s.data.toList.take (k + 1) = s.data.toList.take k ++ [s[k]] := by
  have h' : k < s.data.toList.length := by simpa using h
  rw [List.take_succ_eq_append_getElem h']
  rfl
theorem or_two (a b : Nat) (ha : a < 256) (hb : b < 256) : bits .or .u32 ((a : Int) * 65536) ((b : Int) * 256) = (a : Int) * 65536 + (b : Int) * 256 := by
  rw [u32_or _ _ (by omega) (by omega) (by omega) (by omega)]
  have : ((a : Int) * 65536).toNat ||| ((b : Int) * 256).toNat = a * 65536 + b * 256 := by
    rw [show ((a : Int) * 65536).toNat = 2 ^ 16 * a by omega, show ((b : Int) * 256).toNat = b * 256 by omega, show a * 65536 = 2 ^ 16 * a by omega]
    exact (Nat.two_pow_add_eq_or_of_lt (show b * 256 < 2 ^ 16 by omega) a).symm
  rw [this]
  omega
theorem or_three (m c : Nat) (hm : m < 65536) (hc : c < 256) : bits .or .u32 ((m : Int) * 256) (c : Int) = (m : Int) * 256 + c := by
  rw [u32_or _ _ (by omega) (by omega) (by omega) (by omega)]
  have : ((m : Int) * 256).toNat ||| (c : Int).toNat = m * 256 + c := by
    rw [show ((m : Int) * 256).toNat = 2 ^ 8 * m by omega, show (c : Int).toNat = c by omega, show m * 256 = 2 ^ 8 * m by omega]
    exact (Nat.two_pow_add_eq_or_of_lt (show c < 2 ^ 8 by omega) m).symm
  rw [this]
  omega

/-- The four cells hold the four runs. -/
def Runs (wr : World) (B : Nat) (rs : List Nat) : Prop := rs.length = 4 ∧ (∀ j, j < 4 → wr.cell? ⟨B, j, none⟩ = some (.int .u32 (rs.getD j 0 : Nat))) ∧ (∀ j, wr.frozen? ⟨B, j, none⟩ = false) ∧ ∀ j, rs.getD j 0 ≤ 999999
theorem Runs.set {wr : World} {B : Nat} {rs : List Nat} (h : Runs wr B rs) {j n : Nat} {a : Int} (ha : Hid (a = (n : Int))) (hj : j < 4) (hn : a ≤ 999999) : Runs (wr.setCell ⟨B, j, none⟩ (.int .u32 a)) B (rs.set j n) := by
  have hn' : n ≤ 999999 := by have := ha.out; omega
  rw [ha.out]
  obtain ⟨h1, h2, h3, h4⟩ := h
  refine ⟨by rw [List.length_set]; exact h1, fun i hi => ?_, fun i => by rw [World.frozen?_setCell]; exact h3 i, fun i => ?_⟩
  · by_cases e : i = j
    · subst e
      rw [World.cell?_setCell_same _ _ _ (h2 i hi)]
      simp [List.getD, List.getElem?_set_self (show i < rs.length by omega)]
    · have hne : (⟨B, j, none⟩ : Addr) ≠ ⟨B, i, none⟩ := by intro h; injection h with _ h2 _; exact e h2.symm
      rw [World.cell?_setCell_other _ _ _ _ hne, h2 i hi]
      simp [List.getD, List.getElem?_set_ne (fun h => e h.symm)]
  · by_cases e : i = j
    · subst e
      simp [List.getD, List.getElem?_set_self (show i < rs.length by omega)]
      exact hn'
    · have := h4 i
      simpa [List.getD, List.getElem?_set_ne (fun h => e h.symm)] using this

theorem and_nat (r : Nat) (h : r ≤ 999999) : bits .and .u32 (r : Int) 255 = ((r % 256 : Nat) : Int) := by
  rw [and255 (r : Int) (by omega) (by omega)]
  omega
theorem load_facts (r1 r2 r3 : Nat) (h1 : r1 ≤ 999999) (h2 : r2 ≤ 999999) (h3 : r3 ≤ 999999) : ∃ A B C : Nat, A < 256 ∧ B < 256 ∧ C < 256 ∧ bits .and .u32 (r1 : Int) 255 = (A : Int) ∧ bits .and .u32 (r2 : Int) 255 = (B : Int) ∧ bits .and .u32 (r3 : Int) 255 = (C : Int) ∧
    bits .or .u32 ((A : Int) * 65536) ((B : Int) * 256) = (A : Int) * 65536 + (B : Int) * 256 ∧ bits .or .u32 ((A : Int) * 65536 + (B : Int) * 256) (C : Int) = (A : Int) * 65536 + (B : Int) * 256 + (C : Int) ∧
    Hid ((A : Int) * 65536 + (B : Int) * 256 + (C : Int) = (((r1 % 256) * 65536 + (r2 % 256) * 256 + r3 % 256 : Nat) : Int)) := by
  refine ⟨r1 % 256, r2 % 256, r3 % 256, Nat.mod_lt _ (by omega), Nat.mod_lt _ (by omega), Nat.mod_lt _ (by omega), and_nat r1 h1, and_nat r2 h2, and_nat r3 h3, or_two _ _ (Nat.mod_lt _ (by omega)) (Nat.mod_lt _ (by omega)), ?_, ?_⟩
  · have h := or_three (r1 % 256 * 256 + r2 % 256) (r3 % 256) (by omega) (Nat.mod_lt _ (by omega))
    rw [show ((r1 % 256 * 256 + r2 % 256 : Nat) : Int) * 256 = ((r1 % 256 : Nat) : Int) * 65536 + ((r2 % 256 : Nat) : Int) * 256 by omega] at h
    exact h
  · show _ = _
    omega

theorem st_in {s : ByteArray} {k cnt n : Nat} {inn : Bool} {rs : List Nat} (hk : k < s.size) (h : Hid ((⟨rs, cnt, inn, n⟩ : Cst) = cfold (s.data.toList.take k))) (hd : isDig s[k] = true) : Hid ((⟨rs, cnt, true, grow (if inn then n else 0) s[k]⟩ : Cst) = cfold (s.data.toList.take (k + 1))) := by
  show _ = _
  rw [get_at s k hk, cfold_snoc, ← h.out, cstep_in rs cnt n s[k] hd inn]
theorem st_out {s : ByteArray} {k cnt n : Nat} {rs : List Nat} (hk : k < s.size) (h : Hid ((⟨rs, cnt, true, n⟩ : Cst) = cfold (s.data.toList.take k))) (hd : isDig s[k] = false) : Hid (put ⟨rs, cnt, true, n⟩ = cfold (s.data.toList.take (k + 1))) := by
  show _ = _
  rw [get_at s k hk, cfold_snoc, ← h.out, cstep_out rs cnt n s[k] hd]
theorem st_idle {s : ByteArray} {k cnt n : Nat} {rs : List Nat} (hk : k < s.size) (h : Hid ((⟨rs, cnt, false, n⟩ : Cst) = cfold (s.data.toList.take k))) (hd : isDig s[k] = false) : Hid ((⟨rs, cnt, false, n⟩ : Cst) = cfold (s.data.toList.take (k + 1))) := by
  show _ = _
  rw [get_at s k hk, cfold_snoc, ← h.out, cstep_idle rs cnt n s[k] hd]
theorem grow_yes {n : Nat} {c : UInt8} (h : n < 100000) : grow n c = n * 10 + (c.toNat - 48) := by unfold grow; rw [if_pos h]
theorem grow_no {n : Nat} {c : UInt8} (h : ¬ n < 100000) : grow n c = n := by unfold grow; rw [if_neg h]
theorem put_yes {rs : List Nat} {cnt n : Nat} (h : cnt < 4) : put ⟨rs, cnt, true, n⟩ = ⟨rs.set cnt n, cnt + 1, false, n⟩ := by simp only [put, if_pos h]
theorem put_no {rs : List Nat} {cnt n : Nat} (h : ¬ cnt < 4) : put ⟨rs, cnt, true, n⟩ = ⟨rs, cnt + 1, false, n⟩ := by simp only [put, if_neg h]

theorem set3 (rs : List Nat) (n : Nat) (h : rs.length = 4) : (rs.set 3 n).getD 1 0 = rs.getD 1 0 ∧ (rs.set 3 n).getD 2 0 = rs.getD 2 0 ∧ (rs.set 3 n).getD 3 0 = n := by
  match rs, h with
  | [_, _, _, _], _ => exact ⟨rfl, rfl, rfl⟩
theorem join_set (rs : List Nat) (n : Nat) (h : rs.length = 4) : join3 ⟨rs.set 3 n, 3 + 1, false, n⟩ = (rs.getD 1 0 % 256) * 65536 + (rs.getD 2 0 % 256) * 256 + n % 256 := by
  obtain ⟨e1, e2, e3⟩ := set3 rs n h
  unfold join3
  rw [if_neg (show ¬ 3 + 1 < 4 by omega)]
  rw [e1, e2, e3]

set_option maxHeartbeats 8000000 in
set_option maxRecDepth 100000 in
theorem cand_any (s : ByteArray) (hs : s.size ≤ 1048576) (w : World) :
    Calls Try.prog 8 #[.string s] w fun e w' => e = .returned (.int .u32 (cand s.data.toList)) ∧ Below w.heap.size w w' := by
  go_enter Try.func8, Try.ntmps8
  go_wp2
  go_loopw [4, 5, 6, 7] (fun vc vin vn vi wr => ∃ (k cnt n : Nat) (inn : Bool) (rs : List Nat) (a : Int), k ≤ s.size ∧ vi = .int .i64 k ∧ vc = .int .i64 cnt ∧ vin = .bool inn ∧ vn = .int .u32 a ∧ 0 ≤ a ∧ a ≤ 999999 ∧ cnt ≤ k ∧ Hid (a = (n : Int)) ∧ Hid ((⟨rs, cnt, inn, n⟩ : Cst) = cfold (s.data.toList.take k)) ∧ Hid (Runs wr w.heap.size rs) ∧ Below w.heap.size w wr)
    (fun _ _ _ vi _ => s.size - (intOf vi).toNat)
  case atStart =>
    refine ⟨0, 0, 0, false, [0, 0, 0, 0], 0, by omega, rfl, rfl, rfl, rfl, by omega, by omega, by omega, rfl, rfl, ⟨rfl, fun j hj => ?_, fun j => ?_, fun j => ?_⟩, (Below.refl _ w).alloc (Nat.le_refl _) _⟩
    · rw [World.cell?_alloc_at _ _ _ _ rfl]
      rcases (by omega : j = 0 ∨ j = 1 ∨ j = 2 ∨ j = 3) with rfl | rfl | rfl | rfl <;> rfl
    · rw [World.frozen?_alloc_at _ _ _ _ rfl]
    · rcases (by omega : j = 0 ∨ j = 1 ∨ j = 2 ∨ j = 3 ∨ 4 ≤ j) with rfl | rfl | rfl | rfl | h
      · decide
      · decide
      · decide
      · decide
      · simp [List.getD, List.getElem?_eq_none (show ([0, 0, 0, 0] : List Nat).length ≤ j from h)]
  case round =>
    obtain ⟨k, cnt, n, inn, rs, a, hk, rfl, rfl, rfl, rfl, a0, hn, hck, ha, hst, hrs, hbel⟩ := hrel
    by_cases hlt : k < s.size
    · by_cases hdg : isDig s[k] = true
      · have hcc := (isDig_iff _).1 hdg
        have k1 : (48 : Int) ≤ (s[k].toNat : Int) := by omega
        have k2 : (s[k].toNat : Int) ≤ 57 := by omega
        have kd : decide ((s[k].toNat : Int) ≤ 57) = true := by simpa using k2
        have HS := st_in hlt hst hdg
        clear hst hdg hcc
        cases inn with
        | false =>
          go_wp2
          go_roundw
          case rel => exact ⟨k + 1, cnt, s[k].toNat - 48, true, rs, (s[k].toNat : Int) - 48, by omega, by go_num, rfl, rfl, (by first | rfl | (congr 1; omega)), by omega, by omega, by omega, (by show _ = _; omega), (by have := HS.out; rw [if_neg (by decide), grow_yes (by omega), Nat.zero_mul, Nat.zero_add] at this; exact this), hrs, hbel⟩
          case measure => simp [intOf]; omega
        | true =>
          by_cases hs5 : a < 100000
          · go_wp2
            go_roundw
            case rel => exact ⟨k + 1, cnt, n * 10 + (s[k].toNat - 48), true, rs, a * 10 + ((s[k].toNat : Int) - 48), by omega, by go_num, rfl, rfl, (by first | rfl | (congr 1; omega)), by omega, by omega, by omega, (by have := ha.out; show _ = _; omega), (by have := HS.out; have h5 := ha.out; rw [if_pos rfl, grow_yes (by omega)] at this; exact this), hrs, hbel⟩
            case measure => simp [intOf]; omega
          · go_wp2
            go_roundw
            case rel => exact ⟨k + 1, cnt, n, true, rs, a, by omega, by go_num, rfl, rfl, rfl, a0, hn, by omega, ha, (by have := HS.out; have h5 := ha.out; rw [if_pos rfl, grow_no (by omega)] at this; exact this), hrs, hbel⟩
            case measure => simp [intOf]; omega
      · have hdf : isDig s[k] = false := Bool.eq_false_iff.2 hdg
        have hway : (s[k].toNat : Int) < 48 ∨ 57 < (s[k].toNat : Int) := by
          have h1 : ¬ (48 ≤ s[k].toNat ∧ s[k].toNat ≤ 57) := fun h' => hdg ((isDig_iff _).2 h')
          omega
        clear hdg
        cases inn with
        | false =>
          have HS := st_idle hlt hst hdf
          clear hst hdf
          rcases hway with hw | hw
          all_goals
            try have kd : decide ((s[k].toNat : Int) ≤ 57) = false := by simpa using hw
            go_wp2
            go_roundw
            case rel => exact ⟨k + 1, cnt, n, false, rs, a, by omega, by go_num, rfl, rfl, rfl, a0, hn, by omega, ha, HS, hrs, hbel⟩
            case measure => simp [intOf]; omega
        | true =>
          have HS := st_out hlt hst hdf
          clear hst hdf
          by_cases hc4 : cnt < 4
          · have hcell := hrs.out.2.1 cnt hc4
            have hfz := hrs.out.2.2.1 cnt
            have HR : Hid (Runs (wr.setCell ⟨w.heap.size, cnt, none⟩ (.int .u32 a)) w.heap.size (rs.set cnt n)) := hrs.out.set ha hc4 hn
            have HB : Hid (Below w.heap.size w (wr.setCell ⟨w.heap.size, cnt, none⟩ (.int .u32 a))) := hbel.setCell (p := ⟨w.heap.size, cnt, none⟩) (Nat.le_refl _) _
            rcases hway with hw | hw
            all_goals
              try have kd : decide ((s[k].toNat : Int) ≤ 57) = false := by simpa using hw
              go_wp2
              go_roundw
              case rel => exact ⟨k + 1, cnt + 1, n, false, rs.set cnt n, a, by omega, by go_num, by go_num, rfl, rfl, a0, hn, by omega, ha, (by have := HS.out; rw [put_yes hc4] at this; exact this), HR, HB.out⟩
              case measure => simp [intOf]; omega
          · rcases hway with hw | hw
            all_goals
              try have kd : decide ((s[k].toNat : Int) ≤ 57) = false := by simpa using hw
              go_wp2
              go_roundw
              case rel => exact ⟨k + 1, cnt + 1, n, false, rs, a, by omega, by go_num, by go_num, rfl, rfl, a0, hn, by omega, ha, (by have := HS.out; rw [put_no hc4] at this; exact this), hrs, hbel⟩
              case measure => simp [intOf]; omega
    · obtain rfl : k = s.size := by omega
      have HC : Hid (cand s.data.toList = join3 (shut ⟨rs, cnt, inn, n⟩)) := by
        show _ = _
        unfold cand
        rw [hst.out, List.take_of_length_le (by simp)]
      clear hst
      cases inn with
      | false =>
        by_cases hc4 : cnt < 4
        · have HZ : Hid (cand s.data.toList = 0) := by show _ = _; rw [HC.out]; simp [shut, join3, hc4]
          go_wp2
          go_ret
          rw [HZ.out]
          exact ⟨rfl, hbel⟩
        · have HZ : Hid (cand s.data.toList = (rs.getD 1 0 % 256) * 65536 + (rs.getD 2 0 % 256) * 256 + rs.getD 3 0 % 256) := by
            show _ = _
            rw [HC.out]
            show join3 ⟨rs, cnt, false, n⟩ = _
            unfold join3
            rw [if_neg hc4]
          have h1 := hrs.out.2.1 1 (by omega)
          have h2 := hrs.out.2.1 2 (by omega)
          have h3 := hrs.out.2.1 3 (by omega)
          have g1 := hrs.out.2.2.2 1
          have g2 := hrs.out.2.2.2 2
          have g3 := hrs.out.2.2.2 3
          generalize rs.getD 1 0 = r1 at HZ h1 g1
          generalize rs.getD 2 0 = r2 at HZ h2 g2
          generalize rs.getD 3 0 = r3 at HZ h3 g3
          obtain ⟨A, B, C, hA, hB, hC, f1, f2, f3, f4, f5, HJ⟩ := load_facts r1 r2 r3 g1 g2 g3
          clear g1 g2 g3
          go_wp2
          go_ret
          refine ⟨?_, hbel⟩
          rw [HZ.out, ← HJ.out]
          rfl
      | true =>
        by_cases hc4 : cnt < 4
        · have hcell := hrs.out.2.1 cnt hc4
          have hfz := hrs.out.2.2.1 cnt
          have HB : Hid (Below w.heap.size w (wr.setCell ⟨w.heap.size, cnt, none⟩ (.int .u32 a))) := hbel.setCell (p := ⟨w.heap.size, cnt, none⟩) (Nat.le_refl _) _
          by_cases hc3 : cnt < 3
          · have HZ : Hid (cand s.data.toList = 0) := by
              show _ = _
              rw [HC.out]
              show join3 (put ⟨rs, cnt, true, n⟩) = 0
              rw [put_yes hc4]
              unfold join3
              rw [if_pos (show cnt + 1 < 4 by omega)]
            go_wp2
            go_ret
            rw [HZ.out]
            exact ⟨rfl, HB.out⟩
          · obtain rfl : cnt = 3 := by omega
            have HZ : Hid (cand s.data.toList = (rs.getD 1 0 % 256) * 65536 + (rs.getD 2 0 % 256) * 256 + n % 256) := by
              show _ = _
              rw [HC.out]
              show join3 (put ⟨rs, 3, true, n⟩) = _
              rw [put_yes hc4]
              exact join_set rs n hrs.out.1
            have h1 := hrs.out.2.1 1 (by omega)
            have h2 := hrs.out.2.1 2 (by omega)
            have g1 := hrs.out.2.2.2 1
            have g2 := hrs.out.2.2.2 2
            have g3 : n ≤ 999999 := by have := ha.out; omega
            generalize rs.getD 1 0 = r1 at HZ h1 g1
            generalize rs.getD 2 0 = r2 at HZ h2 g2
            obtain ⟨A, B, C, hA, hB, hC, f1, f2, f3, f4, f5, HJ⟩ := load_facts r1 r2 n g1 g2 g3
            rw [← ha.out] at f3
            clear g1 g2 g3
            go_wp2
            go_ret
            refine ⟨?_, HB.out⟩
            rw [HZ.out, ← HJ.out]
            rfl
        · have HZ : Hid (cand s.data.toList = (rs.getD 1 0 % 256) * 65536 + (rs.getD 2 0 % 256) * 256 + rs.getD 3 0 % 256) := by
            show _ = _
            rw [HC.out]
            show join3 (put ⟨rs, cnt, true, n⟩) = _
            rw [put_no hc4]
            unfold join3
            rw [if_neg (show ¬ cnt + 1 < 4 by omega)]
          have h1 := hrs.out.2.1 1 (by omega)
          have h2 := hrs.out.2.1 2 (by omega)
          have h3 := hrs.out.2.1 3 (by omega)
          have g1 := hrs.out.2.2.2 1
          have g2 := hrs.out.2.2.2 2
          have g3 := hrs.out.2.2.2 3
          generalize rs.getD 1 0 = r1 at HZ h1 g1
          generalize rs.getD 2 0 = r2 at HZ h2 g2
          generalize rs.getD 3 0 = r3 at HZ h3 g3
          obtain ⟨A, B, C, hA, hB, hC, f1, f2, f3, f4, f5, HJ⟩ := load_facts r1 r2 r3 g1 g2 g3
          clear g1 g2 g3
          go_wp2
          go_ret
          refine ⟨?_, hbel⟩
          rw [HZ.out, ← HJ.out]
          rfl
end Go.Proofs.Qxb6604285a
