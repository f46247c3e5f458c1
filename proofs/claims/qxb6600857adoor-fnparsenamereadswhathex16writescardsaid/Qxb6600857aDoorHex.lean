/-
  The walk of zzHex16_store_b1 (12): the sixteen hex digits of the bit pattern.
-/
import Derived.Test.Qxb6600857aDoorProg
import Derived.Test.Qxb6600857aDoorPlain
import Derived.WalkKit
import Derived.Laws.BitsAllLaws
import Derived.Laws.IdiomStrings
import Derived.KernelRfl
namespace Go.Proofs.Qxb6600857aDoor
open Go.RowKit Plain

theorem and15 (a : Int) (h0 : 0 ≤ a) (h1 : a < 18446744073709551616) : bits .and .u64 a 15 = a % 16 := by
  rw [u64_and a 15 h0 h1 (by omega) (by omega)]
  have : a.toNat &&& 15 = a.toNat % 16 := Nat.and_two_pow_sub_one_eq_mod a.toNat 4
  rw [show (15 : Int).toNat = 15 from rfl, this]
  omega

/-- One digit more is stored. -/
theorem cells_step {up : Bool} {U k B : Nat} {wr : World} {x n : Int} (hk : k < 16) (hx : wr.cell? ⟨B, 15 - k, none⟩ = some (.int .u8 x)) (hn : n = ((hexc up (U / 16 ^ k % 16)).toNat : Int))
    (hc : ∀ j (hj : j < (ds up U k).length), wr.cell? ⟨B, 16 - k + j, none⟩ = some (.int .u8 ((ds up U k)[j].toNat : Int))) (ha : ∀ j, j < 16 → ∃ y, wr.cell? ⟨B, j, none⟩ = some (.int .u8 y)) :
    (∀ j (hj : j < (ds up U (k + 1)).length), (wr.setCell ⟨B, 15 - k, none⟩ (.int .u8 n)).cell? ⟨B, 16 - (k + 1) + j, none⟩ = some (.int .u8 ((ds up U (k + 1))[j].toNat : Int))) ∧
      (∀ j, j < 16 → ∃ y, (wr.setCell ⟨B, 15 - k, none⟩ (.int .u8 n)).cell? ⟨B, j, none⟩ = some (.int .u8 y)) := by
  constructor
  · intro j hj
    rw [ds_length] at hj
    cases j with
    | zero =>
      rw [show 16 - (k + 1) + 0 = 15 - k by omega, World.cell?_setCell_same _ _ _ hx, hn]
      rfl
    | succ j =>
      have hne : (⟨B, 15 - k, none⟩ : Addr) ≠ ⟨B, 16 - (k + 1) + (j + 1), none⟩ := by intro h; injection h with _ h2 _; omega
      rw [World.cell?_setCell_other _ _ _ _ hne, show 16 - (k + 1) + (j + 1) = 16 - k + j by omega, hc j (by rw [ds_length]; omega)]
      rfl
  · intro j hj
    by_cases e : j = 15 - k
    · subst e; exact ⟨n, World.cell?_setCell_same _ _ _ hx⟩
    · have hne : (⟨B, 15 - k, none⟩ : Addr) ≠ ⟨B, j, none⟩ := by intro h; injection h with _ h2 _; omega
      rw [World.cell?_setCell_other _ _ _ _ hne]
      exact ha j hj

theorem rel_hex {up : Bool} {U k B : Nat} {w wr : World} {x n a : Int} (hk : k < 16) (ha : Hid (a = ((U / 16 ^ k : Nat) : Int))) (hx : wr.cell? ⟨B, 15 - k, none⟩ = some (.int .u8 x)) (hn : n = ((hexc up (U / 16 ^ k % 16)).toNat : Int))
    (hc : Hid (∀ j (hj : j < (ds up U k).length), wr.cell? ⟨B, 16 - k + j, none⟩ = some (.int .u8 ((ds up U k)[j].toNat : Int)))) (hall : Hid (∀ j, j < 16 → ∃ y, wr.cell? ⟨B, j, none⟩ = some (.int .u8 y)))
    (hf : Hid (∀ j, wr.frozen? ⟨B, j, none⟩ = false)) (hb : Below B w wr) (ha1 : a < 18446744073709551616) :
    ∃ (k' : Nat) (a' : Int), k' ≤ 16 ∧ Value.int .i64 (15 - (k : Int) - 1) = .int .i64 (15 - (k' : Int)) ∧ Value.int .u64 (a / 16) = .int .u64 a' ∧ 0 ≤ a' ∧ a' < 18446744073709551616 ∧ Hid (a' = ((U / 16 ^ k' : Nat) : Int)) ∧
      Hid (∀ j (hj : j < (ds up U k').length), (wr.setCell ⟨B, 15 - k, none⟩ (.int .u8 n)).cell? ⟨B, 16 - k' + j, none⟩ = some (.int .u8 ((ds up U k')[j].toNat : Int))) ∧
      Hid (∀ j, j < 16 → ∃ y, (wr.setCell ⟨B, 15 - k, none⟩ (.int .u8 n)).cell? ⟨B, j, none⟩ = some (.int .u8 y)) ∧ Hid (∀ j, (wr.setCell ⟨B, 15 - k, none⟩ (.int .u8 n)).frozen? ⟨B, j, none⟩ = false) ∧ Below B w (wr.setCell ⟨B, 15 - k, none⟩ (.int .u8 n)) := by
  obtain ⟨s1, s2⟩ := cells_step hk hx hn hc.out hall.out
  have h0 : 0 ≤ a := by rw [ha.out]; exact Int.natCast_nonneg _
  refine ⟨k + 1, a / 16, by omega, ?_, rfl, by omega, by omega, ?_, s1, s2, fun j => ?_, hb.setCell (Nat.le_refl _) _⟩
  · congr 1; omega
  · show a / 16 = _
    rw [ha.out, Nat.pow_succ, ← Nat.div_div_eq_div_mul]; omega
  · rw [World.frozen?_setCell]; exact hf.out j

set_option maxHeartbeats 2000000 in
set_option maxRecDepth 100000 in
theorem hex16_any (v : Int) (up : Bool) (w : World) (U : Nat) (hU : IntKind.u64.wrap v = (U : Int)) (hU1 : U < 18446744073709551616) :
    Calls Tryd.prog 12 #[.int .i64 v, .bool up] w fun e w' => e = .returned (.string ⟨(ds up U 16).toArray⟩) ∧ Below w.heap.size w w' := by
  go_enter Tryd.func12, Tryd.ntmps12
  go_wp2
  have HU : Hid (IntKind.u64.wrap v = (U : Int)) := hU
  clear hU
  go_loopw [6, 7] (fun u i wr => ∃ (k : Nat) (a : Int), k ≤ 16 ∧ i = .int .i64 (15 - (k : Int)) ∧ u = .int .u64 a ∧ 0 ≤ a ∧ a < 18446744073709551616 ∧ Hid (a = ((U / 16 ^ k : Nat) : Int)) ∧
      Hid (∀ j (hj : j < (ds up U k).length), wr.cell? ⟨w.heap.size, 16 - k + j, none⟩ = some (.int .u8 ((ds up U k)[j].toNat : Int))) ∧
      Hid (∀ j, j < 16 → ∃ x, wr.cell? ⟨w.heap.size, j, none⟩ = some (.int .u8 x)) ∧ Hid (∀ j, wr.frozen? ⟨w.heap.size, j, none⟩ = false) ∧ Below w.heap.size w wr) (fun _ i _ => (1 + intOf i).toNat)
  case atStart =>
    refine ⟨0, (U : Int), by omega, rfl, rfl, by omega, by omega, ?_, ?_, ?_, ?_, (Below.refl _ w).alloc (Nat.le_refl _) _⟩
    · show (U : Int) = ((U / 16 ^ 0 : Nat) : Int); simp
    · intro j hj; simp [ds] at hj
    · intro j hj
      refine ⟨0, ?_⟩
      rw [World.cell?_alloc_at _ _ _ _ rfl]
      rcases (by omega : j = 0 ∨ j = 1 ∨ j = 2 ∨ j = 3 ∨ j = 4 ∨ j = 5 ∨ j = 6 ∨ j = 7 ∨ j = 8 ∨ j = 9 ∨ j = 10 ∨ j = 11 ∨ j = 12 ∨ j = 13 ∨ j = 14 ∨ j = 15) with rfl | rfl | rfl | rfl | rfl | rfl | rfl | rfl | rfl | rfl | rfl | rfl | rfl | rfl | rfl | rfl <;> rfl
    · intro j
      rw [World.frozen?_alloc_at _ _ _ _ rfl]
  case round =>
    obtain ⟨k, a, hk, rfl, rfl, ha0, ha1, ha, hc, hall, hf, hb⟩ := hrel
    by_cases hlt : k < 16
    · obtain ⟨x, hx⟩ := hall.out (15 - k) (by omega)
      have hfz := hf.out (15 - k)
      obtain ⟨d, hd⟩ : ∃ d : Int, bits .and .u64 a 15 = d := ⟨_, rfl⟩
      have hd' : Hid (d = ((U / 16 ^ k % 16 : Nat) : Int)) := by
        show d = _
        rw [← hd, and15 a ha0 ha1, ha.out]; omega
      have d0 : 0 ≤ d := by rw [hd'.out]; omega
      have d1 : d < 16 := by rw [hd'.out]; omega
      rcases (show d < 10 ∨ (10 ≤ d ∧ up = true) ∨ (10 ≤ d ∧ up = false) by cases up <;> simp <;> omega) with e | ⟨e, rfl⟩ | ⟨e, rfl⟩
      · go_wp2
        go_roundw
        case rel => exact rel_hex hlt ha hx (by rw [hexc_toNat _ _ (Nat.mod_lt _ (by omega)), if_pos (by have := hd'.out; omega)]; have := hd'.out; omega) hc hall hf hb ha1
        case measure => simp [intOf]; omega
      · go_wp2
        go_roundw
        case rel => exact rel_hex hlt ha hx (by rw [hexc_toNat _ _ (Nat.mod_lt _ (by omega)), if_neg (by have := hd'.out; omega), if_pos rfl]; have := hd'.out; omega) hc hall hf hb ha1
        case measure => simp [intOf]; omega
      · go_wp2
        go_roundw
        case rel => exact rel_hex hlt ha hx (by rw [hexc_toNat _ _ (Nat.mod_lt _ (by omega)), if_neg (by have := hd'.out; omega), if_neg (by decide)]; have := hd'.out; omega) hc hall hf hb ha1
        case measure => simp [intOf]; omega
    · obtain rfl : k = 16 := by omega
      have hcv : (convert 34 9 (.slice (some ⟨w.heap.size, 0, none⟩) 16 16)).run Tryd.prog wr = .ok (.string ⟨(ds up U 16).toArray⟩) wr := by
        have h := run_convert_bytes_back (P := Tryd.prog) wr 34 9 5 ⟨w.heap.size, 0, none⟩ 16 (ds up U 16) Tryd.underlying34 Tryd.underlying5 Tryd.underlying9 (fun j hj => by
          have := hc.out j hj
          rw [show (⟨w.heap.size, 0, none⟩ : Addr).add j = ⟨w.heap.size, j, none⟩ by unfold Addr.add; split <;> simp_all]
          rw [show 16 - 16 + j = j by omega] at this
          exact this)
        rw [ds_length] at h
        exact h
      clear hc hall hf
      go_wp2
      go_ret
      exact ⟨rfl, hb⟩
end Go.Proofs.Qxb6600857aDoor
