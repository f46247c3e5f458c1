/-
  Plain facts on the order of byte strings.
-/
import Derived.Lib.Bytealg
namespace Go.Proofs.Qxb6604285a.Plain
open Go.Lib

theorem cmp_anti : ∀ a b : List UInt8, compareBytes b a = - compareBytes a b
  | [], [] => rfl
  | [], _ :: _ => rfl
  | _ :: _, [] => rfl
  | x :: a, y :: b => by
    have ih := cmp_anti a b
    unfold compareBytes
    by_cases h1 : x < y
    · have h2 : ¬ y < x := by rw [UInt8.lt_iff_toNat_lt] at h1 ⊢; omega
      simp [h1, h2]
    · by_cases h2 : y < x
      · simp [h1, h2]
      · simp [h1, h2, ih]
theorem cmp_zero : ∀ a b : List UInt8, compareBytes a b = 0 ↔ a = b
  | [], [] => by simp [compareBytes]
  | [], _ :: _ => by simp [compareBytes]
  | _ :: _, [] => by simp [compareBytes]
  | x :: a, y :: b => by
    have ih := cmp_zero a b
    unfold compareBytes
    by_cases h1 : x < y
    · have h2 : x ≠ y := fun e => by subst e; rw [UInt8.lt_iff_toNat_lt] at h1; omega
      simp [h1, h2]
    · by_cases h2 : y < x
      · have h3 : x ≠ y := fun e => by subst e; rw [UInt8.lt_iff_toNat_lt] at h2; omega
        simp [h1, h2, h3]
      · have h3 : x = y := by
          rw [UInt8.lt_iff_toNat_lt] at h1 h2
          exact UInt8.toNat_inj.1 (by omega)
        subst h3
        simp [h1, ih]
end Go.Proofs.Qxb6604285a.Plain
