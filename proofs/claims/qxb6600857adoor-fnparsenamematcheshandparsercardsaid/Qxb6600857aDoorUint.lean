/-
  The walks of internal/strconv.lower (26) and internal/strconv.ParseUint (21) at base 16, 64 bits, of a string of 1 to 16 bytes: the number that its hex digits spell, or (0, ErrSyntax). After the shelf's walk at base 10.
-/
import Derived.Test.Qxb6600857aDoorProg
import Derived.Test.Qxb6600857aDoorPlain
import Derived.Lib.Strings
import Derived.Lib.Walk
import Derived.Lib.ConvBytes
import Derived.Lib.Hide
import Derived.Laws.Strings3
import Derived.Laws.Closers25
import Derived.Laws.Closers25b
import Derived.WalkKit
import Derived.BigCall
import Derived.BigGuard
import Derived.KernelRfl
namespace Go.Proofs.Qxb6600857aDoor
open Go.RowKit Plain

theorem bits_lw_fin : ∀ n : Fin 256, bits .or .u8 (n.val : Int) 32 = (lw (UInt8.ofNat n.val) : Int) := by decide +kernel
theorem bits_lw (c : UInt8) : bits .or .u8 (c.toNat : Int) 32 = (lw c : Int) := by
  have h := bits_lw_fin ⟨c.toNat, c.toNat_lt⟩
  have e : UInt8.ofNat c.toNat = c := by simp
  simp only [e] at h
  exact h

theorem lower_any (c : UInt8) (w : World) :
    Calls Tryd.prog 26 #[.int .u8 c.toNat] w fun e w' => e = .returned (.int .u8 (lw c)) ∧ w' = w := by
  have hb := bits_lw c
  go_enter Tryd.func26, Tryd.ntmps26
  go_wp2
  go_ret
  exact ⟨rfl, rfl⟩

theorem lower_95 (w : World) : Calls Tryd.prog 26 #[.int .u8 95] w fun e w' => e = .returned (.int .u8 127) ∧ w' = w := by
  have h := lower_any 95 w
  have e : lw 95 = 127 := by decide
  rw [e] at h
  exact h

/-- What ParseUint hands back. -/
def uTuple : Option Nat → Value
  | some v => .tuple #[.int .u64 v, .nilIface]
  | none => .tuple #[.int .u64 0, .iface 42 (.int .i64 2)]

set_option maxHeartbeats 4000000 in
set_option maxRecDepth 100000 in
theorem parseUint_any (t : ByteArray) (hne : t.size ≠ 0) (h16 : t.size ≤ 16) (w : World) :
    Calls Tryd.prog 21 #[.string t, .int .i64 16, .int .i64 64] w fun e w' => e = .returned (uTuple (hx 0 t.data.toList)) ∧ w' = Lib.bytesWorld w 5 t := by
  have hemp : t.toList.isEmpty = false := by
    rw [← decide_eq_emptyBytes]
    exact decide_eq_false (fun h => hne (by rw [h]; rfl))
  have hcv := Lib.run_convert_string_bytes (P := Tryd.prog) w 9 34 5 t (u := .string) Tryd.underlying9 Tryd.underlying34 Tryd.underlying5
  have hB : ∀ j, j < t.size → (Lib.bytesWorld w 5 t).cell? ⟨w.heap.size, j, none⟩ = some (.int .u8 (t.data.toList.getD j 0).toNat) := fun j hj => Lib.bytesWorld_cell w 5 t j hj
  obtain ⟨W1, hW1⟩ : ∃ W1, W1 = Lib.bytesWorld w 5 t := ⟨_, rfl⟩
  rw [← hW1] at hcv hB ⊢
  clear hW1
  obtain ⟨bs, hL⟩ : ∃ bs, bs = t.data.toList := ⟨_, rfl⟩
  have hLn : bs.length = t.size := by rw [hL, Lib.size_eq]
  rw [← hL] at hB ⊢
  clear hL
  have hmv : IntKind.u64.wrap (IntKind.u64.wrap 18446744073709551616 - 1) = 18446744073709551615 := by
    rw [IntKind.wrap_u64, IntKind.wrap_u64]
    decide
  go_enter Tryd.func21, Tryd.ntmps21
  go_wp2
  go_loop [12, 13, 101] (fun vu vn vi => ∃ (k acc : Nat) (a : Int), vu = .bool false ∧ vn = .int .u64 a ∧ vi = .int .i64 k ∧ k ≤ t.size ∧ Hid (a = (acc : Int) ∧ acc < 16 ^ k ∧ hx 0 bs = hx acc (bs.drop k)))
    (fun _ _ vi => t.size - (intOf vi).toNat)
  case atStart => exact ⟨0, 0, 0, rfl, rfl, rfl, by omega, rfl, by omega, rfl⟩
  case round =>
    obtain ⟨k, acc, a, rfl, rfl, rfl, hk, hh⟩ := hrel
    obtain ⟨ha, hacc, hdec⟩ := hh.out
    clear hh
    by_cases hkn : k < t.size
    · have hp : 16 ^ k ≤ 16 ^ 15 := Nat.pow_le_pow_right (by omega) (by omega)
      have a0 : 0 ≤ a := by omega
      have a1 : a < 1152921504606846976 := by omega
      clear hp
      have hc := hB k hkn
      have hdrop : bs.drop k = bs[k]'(by omega) :: bs.drop (k + 1) := List.drop_eq_getElem_cons (by omega)
      have hget : bs.getD k 0 = bs[k]'(by omega) := by simp [List.getD, List.getElem?_eq_getElem (show k < bs.length by omega)]
      rw [hdrop] at hdec
      rw [hget] at hc
      generalize bs[k]'(by omega) = c at hc hdec
      have hc256 : c.toNat < 256 := c.toNat_lt
      clear hB hdrop hget
      rcases byte_part c with ⟨d0, d1⟩ | ⟨d0, d1, d2, d3, d4⟩ | ⟨hno, d1, d2⟩
      · have hF : hx acc (c :: bs.drop (k + 1)) = hx (acc * 16 + (c.toNat - 48)) (bs.drop (k + 1)) := by simp only [hx, hexv_dig c ⟨d0, d1⟩]
        have HN : Hid (a * 16 + ((c.toNat : Int) - 48) = ((acc * 16 + (c.toNat - 48) : Nat) : Int) ∧ acc * 16 + (c.toNat - 48) < 16 ^ (k + 1) ∧ hx 0 bs = hx (acc * 16 + (c.toNat - 48)) (bs.drop (k + 1))) := Lib.hid ⟨by omega, by rw [Nat.pow_succ]; omega, hdec.trans hF⟩
        clear hacc hF hdec ha
        go_wp2
        go_round
        case rel => exact ⟨k + 1, acc * 16 + (c.toNat - 48), a * 16 + ((c.toNat : Int) - 48), rfl, (by first | rfl | (congr 1; omega)), by go_num, by omega, HN⟩
        case measure => simp [intOf]; omega
      · have hF : hx acc (c :: bs.drop (k + 1)) = hx (acc * 16 + (lw c - 87)) (bs.drop (k + 1)) := by simp only [hx, d4]
        have HN : Hid (a * 16 + ((lw c : Int) - 97 + 10) = ((acc * 16 + (lw c - 87) : Nat) : Int) ∧ acc * 16 + (lw c - 87) < 16 ^ (k + 1) ∧ hx 0 bs = hx (acc * 16 + (lw c - 87)) (bs.drop (k + 1))) := Lib.hid ⟨by omega, by rw [Nat.pow_succ]; omega, hdec.trans hF⟩
        have h95 : ((c.toNat : Int) == 95) = false := by rw [beq_eq_false_iff_ne]; omega
        clear hacc hF hdec ha d4 d1
        go_wp2_with (go_at_call 26; refine (lower_any c _).mono ?_; rintro e w' ⟨rfl, rfl⟩)
        go_round
        case rel => exact ⟨k + 1, acc * 16 + (lw c - 87), a * 16 + ((lw c : Int) - 97 + 10), rfl, (by first | rfl | (congr 1; omega)), by go_num, by omega, HN⟩
        case measure => simp [intOf]; omega
      · have hF : hx acc (c :: bs.drop (k + 1)) = none := by simp only [hx, hno]
        rw [hF] at hdec
        clear hacc hF ha hno
        have hl := lw_lt c
        by_cases h95 : c.toNat = 95
        · have hc' : W1.cell? ⟨w.heap.size, k, none⟩ = some (.int .u8 95) := by rw [hc, h95]; rfl
          clear hc h95 d1 d2 hl hc256
          go_wp2_with (go_at_call 26; refine (lower_95 _).mono ?_; rintro e w' ⟨rfl, rfl⟩)
          go_ret2
          first | exact ⟨rfl, rfl⟩ | (rw [hdec]; exact ⟨rfl, rfl⟩)
        · have hb95 : ((c.toNat : Int) == 95) = false := by rw [beq_eq_false_iff_ne]; omega
          rcases (show c.toNat < 48 ∨ 57 < c.toNat by omega) with e1 | e1 <;> rcases (show lw c < 97 ∨ 122 < lw c ∨ (103 ≤ lw c ∧ lw c ≤ 122) by omega) with e2 | e2 | ⟨e2, e3⟩
          all_goals
            clear d1 d2 h95
            go_wp2_with (go_at_call 26; refine (lower_any c _).mono ?_; rintro e w' ⟨rfl, rfl⟩)
            go_ret2
            first | exact ⟨rfl, rfl⟩ | (rw [hdec]; exact ⟨rfl, rfl⟩)
    · -- THE BYTES ARE AT AN END
      have hkk : k = t.size := by omega
      subst hkk
      have hF : hx acc (bs.drop t.size) = some acc := by rw [List.drop_eq_nil_of_le (by omega)]; rfl
      rw [hF] at hdec
      subst ha
      clear hacc hF
      go_wp2
      go_ret2
      exact ⟨rfl, rfl⟩
end Go.Proofs.Qxb6600857aDoor
