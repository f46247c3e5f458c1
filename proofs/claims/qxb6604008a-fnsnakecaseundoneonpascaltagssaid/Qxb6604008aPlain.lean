/-
  The plain side of the two snakeCase laws: no Go in sight.
  'snk l k': the snake spelling of the first k bytes of l. 'pst': one step of the way back to PascalCase.
-/
import Derived.Below
namespace Go.Proofs.Qxb6604008a.Plain

/-- Is the byte a capital letter? -/
def isCap (c : UInt8) : Bool := decide (65 ≤ c.toNat) && decide (c.toNat ≤ 90)
/-- The byte, lowered. -/
def low (c : UInt8) : UInt8 := if isCap c then c + 32 else c
/-- What the byte at place i gives. -/
def piece (i : Nat) (c : UInt8) : List UInt8 := if isCap c && decide (0 < i) then [95, low c] else [low c]
/-- The snake spelling of the first k bytes. -/
def snk (l : List UInt8) : Nat → List UInt8
  | 0 => []
  | k + 1 => snk l k ++ piece k (l.getD k 0)

theorem isCap_iff (c : UInt8) : isCap c = true ↔ 65 ≤ c.toNat ∧ c.toNat ≤ 90 := by simp [isCap]
theorem isCap_no (c : UInt8) (h : ¬ (65 ≤ c.toNat ∧ c.toNat ≤ 90)) : isCap c = false := by
  rw [← Bool.not_eq_true, isCap_iff]; exact h
theorem low_cap (c : UInt8) (h : isCap c = true) : low c = c + 32 := by simp [low, h]
theorem low_no (c : UInt8) (h : isCap c = false) : low c = c := by simp [low, h]
theorem toNat_low (c : UInt8) (h : isCap c = true) : (low c).toNat = c.toNat + 32 := by
  rw [low_cap c h, UInt8.toNat_add]
  have := (isCap_iff c).1 h
  have h32 : (32 : UInt8).toNat = 32 := rfl
  omega
theorem int_low (c : UInt8) (h : isCap c = true) : ((low c).toNat : Int) = (c.toNat : Int) + 32 := by rw [toNat_low c h]; omega

theorem piece_len (i : Nat) (c : UInt8) : (piece i c).length ≤ 2 := by unfold piece; split <;> simp
theorem snk_len (l : List UInt8) : ∀ k, (snk l k).length ≤ 2 * k
  | 0 => by simp [snk]
  | k + 1 => by have := snk_len l k; have := piece_len k (l.getD k 0); simp only [snk, List.length_append]; omega

theorem snk_first (l : List UInt8) (c : UInt8) (h : l.getD 0 0 = c) : snk l 1 = [low c] := by simp only [snk, h, piece]; simp
theorem snk_cap (l : List UInt8) (k : Nat) (c : UInt8) (h : l.getD k 0 = c) (hc : isCap c = true) (hk : 0 < k) : snk l (k + 1) = snk l k ++ [95] ++ [low c] := by
  simp only [snk, h, piece]; simp [hc, hk]
theorem snk_no (l : List UInt8) (k : Nat) (c : UInt8) (h : l.getD k 0 = c) (hc : isCap c = false ∨ k = 0) : snk l (k + 1) = snk l k ++ [low c] := by
  simp only [snk, h, piece]
  rcases hc with hc | hc <;> simp [hc]

/-- What snakeByWords has gathered, inside a word that began at a, at place k. -/
def mid (l : List UInt8) (a k : Nat) : List UInt8 := if k = a ∧ 0 < a then snk l a ++ [95] else snk l k
theorem mid_len (l : List UInt8) (a k : Nat) : (mid l a k).length ≤ 2 * k + 1 := by
  unfold mid; split
  · rename_i h; have := snk_len l a; simp; omega
  · have := snk_len l k; omega
theorem mid_start (l : List UInt8) (a : Nat) (h : 0 < a) : mid l a a = snk l a ++ [95] := by simp [mid, h]
theorem mid_zero (l : List UInt8) (k : Nat) : mid l 0 k = snk l k := by simp [mid]
theorem mid_past (l : List UInt8) (a k : Nat) (h : a < k) : mid l a k = snk l k := by unfold mid; rw [if_neg (by omega)]
/-- One byte more: a word begins at place 0 or at a capital; within it there is none. -/
theorem mid_succ (l : List UInt8) (a k : Nat) (c : UInt8) (h : l.getD k 0 = c) (hak : a ≤ k) (ha : 0 < a → isCap (l.getD a 0) = true) (hk : a < k → isCap c = false) :
    mid l a (k + 1) = mid l a k ++ [low c] := by
  rw [mid_past l a (k + 1) (by omega)]
  by_cases e : k = a
  · subst e
    by_cases z : 0 < k
    · rw [mid_start l k z, snk_cap l k c h (by rw [← h]; exact ha z) z]
    · obtain rfl : k = 0 := by omega
      rw [mid_zero, snk_no l 0 c h (.inr rfl)]
  · rw [mid_past l a k (by omega), snk_no l k c h (.inl (hk (by omega)))]

/-- One step of pascalFromSnake: the flag 'up' and what is gathered. -/
def pst (s : Bool × List UInt8) (c : UInt8) : Bool × List UInt8 :=
  if c = 95 then (true, s.2) else if s.1 = true ∧ 97 ≤ c.toNat ∧ c.toNat ≤ 122 then (false, s.2 ++ [c - 32]) else (false, s.2 ++ [c])
/-- pascalFromSnake over a list of bytes. -/
def pas (l : List UInt8) : Bool × List UInt8 := l.foldl pst (true, [])

theorem pst_len (s : Bool × List UInt8) (c : UInt8) : (pst s c).2.length ≤ s.2.length + 1 := by
  unfold pst; split
  · simp
  · split <;> simp
theorem foldl_len : ∀ (l : List UInt8) (s : Bool × List UInt8), (l.foldl pst s).2.length ≤ s.2.length + l.length
  | [], s => by simp
  | c :: l, s => by have := foldl_len l (pst s c); have := pst_len s c; simp only [List.foldl_cons, List.length_cons]; omega
theorem pas_len (l : List UInt8) : (pas l).2.length ≤ l.length := by have := foldl_len l (true, []); simpa [pas] using this
theorem pas_snoc (l : List UInt8) (c : UInt8) : pas (l ++ [c]) = pst (pas l) c := by simp [pas]

theorem lower_back (c : UInt8) (h : isCap c = true) : low c - 32 = c := by rw [low_cap c h]; simp
theorem lower_range (c : UInt8) (h : isCap c = true) : 97 ≤ (low c).toNat ∧ (low c).toNat ≤ 122 := by
  have := (isCap_iff c).1 h; rw [toNat_low c h]; omega
theorem ne95_of (c : UInt8) (h : c.toNat ≠ 95) : c ≠ 95 := fun e => h (by rw [e]; rfl)

theorem take_snoc (l : List UInt8) (k : Nat) (h : k < l.length) : l.take (k + 1) = l.take k ++ [l.getD k 0] := by
  rw [List.take_succ_eq_append_getElem h]; simp [List.getD, List.getElem?_eq_getElem h]

/-- THE PLAIN LAW: a tag that opens with a capital and holds no '_' comes back. -/
theorem pas_snk (l : List UInt8) (h0 : isCap (l.getD 0 0) = true) (hno : ∀ k, k < l.length → l.getD k 0 ≠ 95) :
    ∀ k, k ≤ l.length → pas (snk l k) = (decide (k = 0), l.take k)
  | 0, _ => by simp [snk, pas]
  | k + 1, hk => by
    have ih := pas_snk l h0 hno k (by omega)
    have hc := hno k (by omega)
    rw [take_snoc l k (by omega)]
    by_cases z : k = 0
    · subst z
      obtain ⟨a, b⟩ := lower_range _ h0
      rw [snk_first l _ rfl, show [low (l.getD 0 0)] = [] ++ [low (l.getD 0 0)] from rfl, pas_snoc]
      simp [pas, pst, ne95_of _ (show (low (l.getD 0 0)).toNat ≠ 95 by omega), a, b, lower_back _ h0, -List.getD_eq_getElem?_getD]
    · cases e : isCap (l.getD k 0) with
      | true =>
        obtain ⟨a, b⟩ := lower_range _ e
        rw [snk_cap l k _ rfl e (by omega), pas_snoc, pas_snoc, ih]
        simp [pst, ne95_of _ (show (low (l.getD k 0)).toNat ≠ 95 by omega), a, b, lower_back _ e, -List.getD_eq_getElem?_getD]
      | false =>
        rw [snk_no l k _ rfl (.inl e), low_no _ e, pas_snoc, ih]
        simp [pst, hc, z, -List.getD_eq_getElem?_getD]

theorem pas_snk_all (l : List UInt8) (h0 : isCap (l.getD 0 0) = true) (hno : ∀ k, k < l.length → l.getD k 0 ≠ 95) : (pas (snk l l.length)).2 = l := by
  rw [pas_snk l h0 hno l.length (Nat.le_refl _)]; simp
end Go.Proofs.Qxb6604008a.Plain
