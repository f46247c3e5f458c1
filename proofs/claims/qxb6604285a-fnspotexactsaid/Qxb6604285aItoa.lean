/-
  The walk of zzItoa (15): the decimal text.
-/
import Derived.Test.Qxb6604285aProg
import Derived.Test.Qxb6604285aSpot
import Derived.WalkKit
import Derived.Laws.IdiomStrings
import Derived.KernelRfl
namespace Go.Proofs.Qxb6604285a
open Go.RowKit Plain

/-- One digit more is stored. -/
theorem cells_step {f B : Nat} {acc : List UInt8} {wr : World} {x : Int} {c : UInt8} (hf : 1 ≤ f) (hfa : f + acc.length = 10) (hx : wr.cell? ⟨B, f - 1, none⟩ = some (.int .u8 x))
    (hc : ∀ j (hj : j < acc.length), wr.cell? ⟨B, f + j, none⟩ = some (.int .u8 (acc[j].toNat : Int))) (ha : ∀ j, j < 10 → ∃ y, wr.cell? ⟨B, j, none⟩ = some (.int .u8 y)) :
    (∀ j (hj : j < (c :: acc).length), (wr.setCell ⟨B, f - 1, none⟩ (.int .u8 (c.toNat : Int))).cell? ⟨B, f - 1 + j, none⟩ = some (.int .u8 ((c :: acc)[j].toNat : Int))) ∧
      (∀ j, j < 10 → ∃ y, (wr.setCell ⟨B, f - 1, none⟩ (.int .u8 (c.toNat : Int))).cell? ⟨B, j, none⟩ = some (.int .u8 y)) := by
  constructor
  · intro j hj
    cases j with
    | zero =>
      rw [show f - 1 + 0 = f - 1 by omega, World.cell?_setCell_same _ _ _ hx]
      rfl
    | succ j =>
      have hne : (⟨B, f - 1, none⟩ : Addr) ≠ ⟨B, f - 1 + (j + 1), none⟩ := by intro h; injection h with _ h2 _; omega
      rw [World.cell?_setCell_other _ _ _ _ hne, show f - 1 + (j + 1) = f + j by omega, hc j (by simpa using hj)]
      rfl
  · intro j hj
    by_cases e : j = f - 1
    · subst e; exact ⟨_, World.cell?_setCell_same _ _ _ hx⟩
    · have hne : (⟨B, f - 1, none⟩ : Addr) ≠ ⟨B, j, none⟩ := by intro h; injection h with _ h2 _; omega
      rw [World.cell?_setCell_other _ _ _ _ hne]
      exact ha j hj
theorem dec_more (f m : Nat) (acc : List UInt8) (hf : 1 ≤ f) (h : m / 10 ≠ 0) : dec f m acc = dec (f - 1) (m / 10) (dch (m % 10) :: acc) := by
  obtain ⟨g, rfl⟩ : ∃ g, f = g + 1 := ⟨f - 1, by omega⟩
  simp only [dec, if_neg h, Nat.add_sub_cancel]
theorem dec_last (f m : Nat) (acc : List UInt8) (hf : 1 ≤ f) (h : m / 10 = 0) : dec f m acc = dch (m % 10) :: acc := by
  obtain ⟨g, rfl⟩ : ∃ g, f = g + 1 := ⟨f - 1, by omega⟩
  simp only [dec, if_pos h]
theorem pow_less (f m : Nat) (hf : 1 ≤ f) (h : m < 10 ^ f) : m / 10 < 10 ^ (f - 1) := by
  obtain ⟨g, rfl⟩ : ∃ g, f = g + 1 := ⟨f - 1, by omega⟩
  rw [Nat.pow_succ] at h
  rw [Nat.add_sub_cancel]
  omega
theorem two_more (f m : Nat) (hf : 1 ≤ f) (h : m < 10 ^ f) (h0 : m / 10 ≠ 0) : 2 ≤ f := by
  rcases (show f = 1 ∨ 2 ≤ f by omega) with rfl | h2
  · rw [Nat.pow_one] at h; omega
  · exact h2

theorem slice10 (B f : Nat) (hf1 : 1 ≤ f) (hf2 : f ≤ 10) : ∀ W, (Instr.sliceAt 41 (.pointer (some ⟨B, 0, none⟩)) (some (.int .i64 ((f : Int) - 1))) none none).run Try.prog W = .ok (.slice (some ⟨B, f - 1, none⟩) (10 - (f - 1)) (10 - (f - 1))) W := fun W => by
  have hal : Try.prog.arrayLen 41 = 10 := by kernel_rfl
  have hel : Try.prog.elem 41 = 5 := by kernel_rfl
  have hu : Try.prog.underlying 41 = some (.array (Try.prog.arrayLen 41) (Try.prog.elem 41)) := by rw [hal, hel]; exact Try.underlying41
  rw [run_sliceAt_array_l W 41 _ hu .i64 _ (by omega) (by rw [hal]; omega), hal, hel, Try.sizeOf5]
  have e1 : ((f : Int) - 1).toNat = f - 1 := by omega
  have e2 : ¬ 10 = f - 1 := by omega
  simp only [Result.andThen, slicedAt, e1, if_neg e2, Nat.mul_one]
  rw [show (⟨B, 0, none⟩ : Addr).add (f - 1) = ⟨B, f - 1, none⟩ by unfold Addr.add; split <;> simp_all]
theorem rel_itoa {f m n B : Nat} {acc : List UInt8} {a : Int} {w wr : World} (hf1 : 1 ≤ f) (hz : 10 ≤ a) (hfa : Hid (f + acc.length = 10)) (ha : Hid (a = (m : Int))) (hm : Hid (m < 10 ^ f)) (hdec : Hid (dec f m acc = itoa n))
    (hs : Hid ((∀ j (hj : j < (dch (m % 10) :: acc).length), (wr.setCell ⟨B, f - 1, none⟩ (.int .u8 (48 + a % 10))).cell? ⟨B, f - 1 + j, none⟩ = some (.int .u8 ((dch (m % 10) :: acc)[j].toNat : Int))) ∧
      (∀ j, j < 10 → ∃ y, (wr.setCell ⟨B, f - 1, none⟩ (.int .u8 (48 + a % 10))).cell? ⟨B, j, none⟩ = some (.int .u8 y))))
    (hf : Hid (∀ j, wr.frozen? ⟨B, j, none⟩ = false)) (hb : Hid (Below B w (wr.setCell ⟨B, f - 1, none⟩ (.int .u8 (48 + a % 10))))) (_a0 : 0 ≤ a) (a1 : a < 4294967296) :
    ∃ (f' m' : Nat) (acc' : List UInt8) (a' : Int), 1 ≤ f' ∧ f' ≤ 10 ∧ Value.int .i64 ((f : Int) - 1) = .int .i64 f' ∧ Value.int .u32 (a / 10) = .int .u32 a' ∧ 0 ≤ a' ∧ a' < 4294967296 ∧ Hid (f' + acc'.length = 10) ∧ Hid (a' = (m' : Int)) ∧ Hid (m' < 10 ^ f') ∧ Hid (dec f' m' acc' = itoa n) ∧
      Hid (∀ j (hj : j < acc'.length), (wr.setCell ⟨B, f - 1, none⟩ (.int .u8 (48 + a % 10))).cell? ⟨B, f' + j, none⟩ = some (.int .u8 (acc'[j].toNat : Int))) ∧
      Hid (∀ j, j < 10 → ∃ x, (wr.setCell ⟨B, f - 1, none⟩ (.int .u8 (48 + a % 10))).cell? ⟨B, j, none⟩ = some (.int .u8 x)) ∧ Hid (∀ j, (wr.setCell ⟨B, f - 1, none⟩ (.int .u8 (48 + a % 10))).frozen? ⟨B, j, none⟩ = false) ∧ Below B w (wr.setCell ⟨B, f - 1, none⟩ (.int .u8 (48 + a % 10))) := by
  have ham := ha.out
  have hfa' := hfa.out
  have h0 : m / 10 ≠ 0 := by omega
  have h2 := two_more f m hf1 hm.out h0
  refine ⟨f - 1, m / 10, dch (m % 10) :: acc, a / 10, by omega, by omega, ?_, rfl, by omega, by omega, ?_, ?_, pow_less f m hf1 hm.out, ?_, hs.out.1, hs.out.2, fun j => ?_, hb.out⟩
  · congr 1; omega
  · show f - 1 + (dch (m % 10) :: acc).length = 10
    rw [List.length_cons]; omega
  · show a / 10 = ((m / 10 : Nat) : Int)
    omega
  · show dec (f - 1) (m / 10) (dch (m % 10) :: acc) = itoa n
    rw [← hdec.out, dec_more f m acc hf1 h0]
  · rw [World.frozen?_setCell]; exact hf.out j

set_option maxHeartbeats 2000000 in
set_option maxRecDepth 100000 in
theorem itoa_any (n : Nat) (hn : n < 4294967296) (w : World) (N : Int) (hN : N = (n : Int)) :
    Calls Try.prog 15 #[.int .u32 N] w fun e w' => e = .returned (.string ⟨(itoa n).toArray⟩) ∧ Below w.heap.size w w' := by
  have n0 : 0 ≤ N := by omega
  have n1 : N < 4294967296 := by omega
  have HN : Hid (N = (n : Int)) := hN
  clear hN
  go_enter Try.func15, Try.ntmps15
  go_wp2
  go_loopw [0, 4] (fun nv iv wr => ∃ (f m : Nat) (acc : List UInt8) (a : Int), 1 ≤ f ∧ f ≤ 10 ∧ iv = .int .i64 f ∧ nv = .int .u32 a ∧ 0 ≤ a ∧ a < 4294967296 ∧ Hid (f + acc.length = 10) ∧ Hid (a = (m : Int)) ∧ Hid (m < 10 ^ f) ∧ Hid (dec f m acc = itoa n) ∧
      Hid (∀ j (hj : j < acc.length), wr.cell? ⟨w.heap.size, f + j, none⟩ = some (.int .u8 (acc[j].toNat : Int))) ∧
      Hid (∀ j, j < 10 → ∃ x, wr.cell? ⟨w.heap.size, j, none⟩ = some (.int .u8 x)) ∧ Hid (∀ j, wr.frozen? ⟨w.heap.size, j, none⟩ = false) ∧ Below w.heap.size w wr) (fun _ iv _ => (intOf iv).toNat)
  case atStart =>
    refine ⟨10, n, [], N, by omega, by omega, rfl, rfl, n0, n1, rfl, HN, ?_, rfl, fun j hj => by simp at hj, ?_, ?_, (Below.refl _ w).alloc (Nat.le_refl _) _⟩
    · have hp : (10 : Nat) ^ 10 = 10000000000 := by decide +kernel
      show n < 10 ^ 10
      rw [hp]; omega
    · intro j hj
      refine ⟨0, ?_⟩
      rw [World.cell?_alloc_at _ _ _ _ rfl]
      rcases (by omega : j = 0 ∨ j = 1 ∨ j = 2 ∨ j = 3 ∨ j = 4 ∨ j = 5 ∨ j = 6 ∨ j = 7 ∨ j = 8 ∨ j = 9) with rfl | rfl | rfl | rfl | rfl | rfl | rfl | rfl | rfl | rfl <;> rfl
    · intro j
      rw [World.frozen?_alloc_at _ _ _ _ rfl]
  case round =>
    obtain ⟨f, m, acc, a, hf1, hf2, rfl, rfl, a0, a1, hfa, ha, hm, hdec, hc, hall, hfz, hb⟩ := hrel
    obtain ⟨x, hx⟩ := hall.out (f - 1) (by omega)
    have hfr := hfz.out (f - 1)
    have hcs := cells_step (c := dch (m % 10)) hf1 hfa.out hx hc.out hall.out
    have hch : ((dch (m % 10)).toNat : Int) = 48 + a % 10 := by rw [dch_toNat, ha.out]; omega
    rw [hch] at hcs
    have HS : Hid _ := hcs
    clear hcs
    have HB : Hid (Below w.heap.size w (wr.setCell ⟨w.heap.size, f - 1, none⟩ (.int .u8 (48 + a % 10)))) := hb.setCell (p := ⟨w.heap.size, f - 1, none⟩) (Nat.le_refl _) _
    have HC : Hid (((dch (m % 10)).toNat : Int) = 48 + a % 10) := hch
    clear hch
    by_cases hz : 10 ≤ a
    · go_wp2
      go_roundw
      case rel => exact rel_itoa hf1 (by omega) hfa ha hm hdec HS hfz HB a0 a1
      case measure => simp [intOf]; omega
    · have hsl := slice10 w.heap.size f hf1 hf2
      have hfa' := hfa.out
      have ham := ha.out
      have hl10 : (dch (m % 10) :: acc).length = 10 - (f - 1) := by rw [List.length_cons]; omega
      have hcv : (convert 29 9 (.slice (some ⟨w.heap.size, f - 1, none⟩) (10 - (f - 1)) (10 - (f - 1)))).run Try.prog (wr.setCell ⟨w.heap.size, f - 1, none⟩ (.int .u8 (48 + a % 10))) = .ok (.string ⟨(dch (m % 10) :: acc).toArray⟩) (wr.setCell ⟨w.heap.size, f - 1, none⟩ (.int .u8 (48 + a % 10))) := by
        have h := run_convert_bytes_back (P := Try.prog) (wr.setCell ⟨w.heap.size, f - 1, none⟩ (.int .u8 (48 + a % 10))) 29 9 5 ⟨w.heap.size, f - 1, none⟩ (10 - (f - 1)) (dch (m % 10) :: acc) Try.underlying29 Try.underlying5 Try.underlying9 (fun j hj => by
          rw [show (⟨w.heap.size, f - 1, none⟩ : Addr).add j = ⟨w.heap.size, f - 1 + j, none⟩ by unfold Addr.add; split <;> simp_all]
          exact HS.out.1 j hj)
        rw [hl10] at h
        exact h
      have HD : Hid (dch (m % 10) :: acc = itoa n) := by
        show _ = _
        rw [← hdec.out, dec_last f m acc hf1 (by omega)]
      clear hfa' ham hl10
      go_wp2
      go_ret
      rw [HD.out]
      exact ⟨rfl, HB.out⟩
end Go.Proofs.Qxb6604285a
