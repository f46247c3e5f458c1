/-
  The plain side of the two parseName laws: hex digits and what a tail of sixteen bytes gives. No Go in sight.
-/
import Derived.Below
namespace Go.Proofs.Qxb6600857aDoor.Plain

/-- The value of a hex digit. -/
def hexv (c : UInt8) : Option Nat :=
  if 48 ≤ c.toNat ∧ c.toNat ≤ 57 then some (c.toNat - 48)
  else if 97 ≤ c.toNat ∧ c.toNat ≤ 102 then some (c.toNat - 87)
  else if 65 ≤ c.toNat ∧ c.toNat ≤ 70 then some (c.toNat - 55) else none
/-- The number that a row of hex digits spells, behind what has been read; none where a byte is no hex digit. -/
def hx : Nat → List UInt8 → Option Nat
  | acc, [] => some acc
  | acc, c :: l => match hexv c with
    | some d => hx (acc * 16 + d) l
    | none => none
/-- A signed reading's end: a number, or nothing. -/
def sgn (neg : Bool) : Option Nat → Int × Bool
  | some v => (if neg then -(v : Int) else (v : Int), true)
  | none => (0, false)
/-- A reading without a sign: below 2^63 or refused with the greatest int64. -/
def uns : Option Nat → Int × Bool
  | some v => if v < 9223372036854775808 then ((v : Int), true) else (9223372036854775807, false)
  | none => (0, false)
/-- What sixteen bytes give. -/
def parse16 : List UInt8 → Int × Bool
  | [] => (0, false)
  | c :: r => if c = 43 then sgn false (hx 0 r) else if c = 45 then sgn true (hx 0 r) else uns (hx 0 (c :: r))

theorem hexv_lt (c : UInt8) (d : Nat) (h : hexv c = some d) : d < 16 := by
  unfold hexv at h
  split at h
  · cases h; omega
  · split at h
    · cases h; omega
    · split at h
      · cases h; omega
      · cases h

theorem hx_snoc : ∀ (l : List UInt8) (acc : Nat) (c : UInt8), hx acc (l ++ [c]) = (hx acc l).bind fun v => (hexv c).map fun d => v * 16 + d
  | [], acc, c => by
    simp only [List.nil_append, hx, Option.bind_some]
    cases hexv c <;> rfl
  | a :: l, acc, c => by
    simp only [List.cons_append, hx]
    cases hexv a with
    | none => rfl
    | some d => exact hx_snoc l (acc * 16 + d) c
/-- The number stays below 16^k. -/
theorem hx_lt : ∀ (l : List UInt8) (acc v m : Nat), hx acc l = some v → acc < m → v < m * 16 ^ l.length
  | [], acc, v, m, h, ha => by simp only [hx, Option.some.injEq] at h; subst h; simpa using ha
  | c :: l, acc, v, m, h, ha => by
    simp only [hx] at h
    cases e : hexv c with
    | none => rw [e] at h; cases h
    | some d =>
      rw [e] at h
      have hd := hexv_lt c d e
      have := hx_lt l (acc * 16 + d) v (m * 16) h (by omega)
      rw [List.length_cons, Nat.pow_succ, Nat.mul_comm (16 ^ l.length) 16, ← Nat.mul_assoc]
      exact this
theorem hx_bound (l : List UInt8) (v : Nat) (h : hx 0 l = some v) : v < 16 ^ l.length := by
  have := hx_lt l 0 v 1 h (by omega); omega

/-- The bit 32 set. -/
def lw (c : UInt8) : Nat := (c ||| 32).toNat

theorem hexv_dig (c : UInt8) (h : 48 ≤ c.toNat ∧ c.toNat ≤ 57) : hexv c = some (c.toNat - 48) := by simp [hexv, h]
theorem byte_part_fin : ∀ n : Fin 256, (48 ≤ (UInt8.ofNat n.val).toNat ∧ (UInt8.ofNat n.val).toNat ≤ 57) ∨ (57 < (UInt8.ofNat n.val).toNat ∧ (UInt8.ofNat n.val).toNat ≠ 95 ∧ 97 ≤ lw (UInt8.ofNat n.val) ∧ lw (UInt8.ofNat n.val) ≤ 102 ∧ hexv (UInt8.ofNat n.val) = some (lw (UInt8.ofNat n.val) - 87)) ∨ (hexv (UInt8.ofNat n.val) = none ∧ ¬ (48 ≤ (UInt8.ofNat n.val).toNat ∧ (UInt8.ofNat n.val).toNat ≤ 57) ∧ ¬ (97 ≤ lw (UInt8.ofNat n.val) ∧ lw (UInt8.ofNat n.val) ≤ 102)) := by
  decide +kernel
/-- Every byte is a digit, or (by the bit 32) a letter a to f, or no hex digit: and then its lowered form is no such letter. -/
theorem byte_part (c : UInt8) : (48 ≤ c.toNat ∧ c.toNat ≤ 57) ∨ (57 < c.toNat ∧ c.toNat ≠ 95 ∧ 97 ≤ lw c ∧ lw c ≤ 102 ∧ hexv c = some (lw c - 87)) ∨ (hexv c = none ∧ ¬ (48 ≤ c.toNat ∧ c.toNat ≤ 57) ∧ ¬ (97 ≤ lw c ∧ lw c ≤ 102)) := by
  have h := byte_part_fin ⟨c.toNat, c.toNat_lt⟩
  have e : UInt8.ofNat c.toNat = c := by simp
  simp only [e] at h
  exact h
theorem lw_lt (c : UInt8) : lw c < 256 := (c ||| 32).toNat_lt

/-- The character of a digit below 16. -/
def hexc (up : Bool) (d : Nat) : UInt8 := UInt8.ofNat (if d < 10 then 48 + d else if up then 55 + d else 87 + d)
theorem hexc_fin : ∀ (up : Bool) (d : Fin 16), hexv (hexc up d.val) = some d.val ∧ hexc up d.val ≠ 43 ∧ hexc up d.val ≠ 45 ∧ (hexc up d.val).toNat = (if d.val < 10 then 48 + d.val else if up then 55 + d.val else 87 + d.val) := by decide +kernel
theorem hexv_hexc (up : Bool) (d : Nat) (h : d < 16) : hexv (hexc up d) = some d := (hexc_fin up ⟨d, h⟩).1
theorem hexc_toNat (up : Bool) (d : Nat) (h : d < 16) : (hexc up d).toNat = (if d < 10 then 48 + d else if up then 55 + d else 87 + d) := (hexc_fin up ⟨d, h⟩).2.2.2
/-- The k lowest hex digits of U, the greatest first. -/
def ds (up : Bool) (U : Nat) : Nat → List UInt8
  | 0 => []
  | k + 1 => hexc up (U / 16 ^ k % 16) :: ds up U k
theorem ds_length (up : Bool) (U : Nat) : ∀ k, (ds up U k).length = k
  | 0 => rfl
  | k + 1 => by simp [ds, ds_length up U k]
theorem hx_ds (up : Bool) (U : Nat) : ∀ (k acc : Nat), hx acc (ds up U k) = some (acc * 16 ^ k + U % 16 ^ k)
  | 0, acc => by simp [ds, hx, Nat.mod_one]
  | k + 1, acc => by
    simp only [ds, hx]
    rw [hexv_hexc up _ (Nat.mod_lt _ (by omega))]
    show hx _ _ = _
    rw [hx_ds up U k]
    congr 1
    rw [Nat.pow_succ, Nat.mod_mul, Nat.add_mul, Nat.mul_assoc, Nat.mul_comm 16 (16 ^ k), Nat.mul_comm (U / 16 ^ k % 16) (16 ^ k)]
    omega
theorem parse16_ds (up : Bool) (U : Nat) (h : U < 18446744073709551616) : parse16 (ds up U 16) = if U < 9223372036854775808 then ((U : Int), true) else (9223372036854775807, false) := by
  have hx16 := hx_ds up U 16 0
  rw [Nat.zero_mul, Nat.zero_add, Nat.mod_eq_of_lt (show U < 16 ^ 16 from h)] at hx16
  obtain ⟨_, h43, h45, _⟩ := hexc_fin up ⟨U / 16 ^ 15 % 16, Nat.mod_lt _ (by omega)⟩
  have e : ds up U 16 = hexc up (U / 16 ^ 15 % 16) :: ds up U 15 := rfl
  rw [e] at hx16 ⊢
  simp only [parse16]
  rw [if_neg h43, if_neg h45, hx16]
  rfl
end Go.Proofs.Qxb6600857aDoor.Plain
