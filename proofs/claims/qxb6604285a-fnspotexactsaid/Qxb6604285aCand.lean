/-
  The plain side of zzCandidate: the second, third and fourth runs of digits.
-/
import Derived.Test.Qxb6604285aSpot
namespace Go.Proofs.Qxb6604285a.Plain

/-- What zzCandidate carries: the four runs, how many are through, 'in', the run's number. -/
structure Cst where
  rs : List Nat
  cnt : Nat
  inn : Bool
  n : Nat
/-- A run is through. -/
def put (s : Cst) : Cst := ⟨if s.cnt < 4 then s.rs.set s.cnt s.n else s.rs, s.cnt + 1, false, s.n⟩
/-- One digit more of a run. -/
def grow (n : Nat) (c : UInt8) : Nat := if n < 100000 then n * 10 + (c.toNat - 48) else n
def cstep (s : Cst) (c : UInt8) : Cst :=
  if isDig c then ⟨s.rs, s.cnt, true, grow (if s.inn then s.n else 0) c⟩ else if s.inn then put s else s
def cfold (l : List UInt8) : Cst := l.foldl cstep ⟨[0, 0, 0, 0], 0, false, 0⟩
def shut (s : Cst) : Cst := if s.inn then put s else s
/-- The three bytes. -/
def join3 (s : Cst) : Nat := if s.cnt < 4 then 0 else (s.rs.getD 1 0 % 256) * 65536 + (s.rs.getD 2 0 % 256) * 256 + s.rs.getD 3 0 % 256
def cand (l : List UInt8) : Nat := join3 (shut (cfold l))

theorem cand_lt (l : List UInt8) : cand l < 16777216 := by
  unfold cand join3
  split
  · omega
  · omega
theorem cfold_snoc (l : List UInt8) (c : UInt8) : cfold (l ++ [c]) = cstep (cfold l) c := by
  unfold cfold
  rw [List.foldl_append, List.foldl_cons, List.foldl_nil]
theorem cstep_in (rs : List Nat) (cnt n : Nat) (c : UInt8) (h : isDig c = true) (inn : Bool) : cstep ⟨rs, cnt, inn, n⟩ c = ⟨rs, cnt, true, grow (if inn then n else 0) c⟩ := by
  simp only [cstep, h, if_true]
theorem cstep_out (rs : List Nat) (cnt n : Nat) (c : UInt8) (h : isDig c = false) : cstep ⟨rs, cnt, true, n⟩ c = put ⟨rs, cnt, true, n⟩ := by
  simp [cstep, h]
theorem cstep_idle (rs : List Nat) (cnt n : Nat) (c : UInt8) (h : isDig c = false) : cstep ⟨rs, cnt, false, n⟩ c = ⟨rs, cnt, false, n⟩ := by
  simp [cstep, h]

theorem fold_run (rs : List Nat) (cnt : Nat) : ∀ (ds : List UInt8) (n k : Nat), n < 10 ^ k → k + ds.length ≤ 5 → (∀ c ∈ ds, isDig c = true) → ds.foldl cstep ⟨rs, cnt, true, n⟩ = ⟨rs, cnt, true, valFrom n ds⟩
  | [], n, k, _, _, _ => by rw [List.foldl_nil, valFrom_nil]
  | c :: ds, n, k, hn, hk, hd => by
    rw [List.length_cons] at hk
    have hc := hd c (by simp)
    have h5 : 10 ^ k ≤ 10 ^ 4 := Nat.pow_le_pow_right (by omega) (by omega)
    have h4 : (10 : Nat) ^ 4 = 10000 := by decide
    have hg : grow n c = n * 10 + (c.toNat - 48) := by unfold grow; rw [if_pos (by omega)]
    rw [List.foldl_cons, cstep_in rs cnt n c hc true, if_pos rfl, hg, valFrom_cons]
    refine fold_run rs cnt ds _ (k + 1) ?_ (by omega) (fun x hx => hd x (by simp [hx]))
    have := (isDig_iff c).1 hc
    rw [Nat.pow_succ]
    omega
theorem fold_new (rs : List Nat) (cnt n : Nat) (ds : List UInt8) (h0 : 0 < ds.length) (h5 : ds.length ≤ 5) (hd : ∀ c ∈ ds, isDig c = true) : ds.foldl cstep ⟨rs, cnt, false, n⟩ = ⟨rs, cnt, true, val ds⟩ := by
  cases ds with
  | nil => simp at h0
  | cons c ds =>
    have hc := hd c (by simp)
    have hcd := (isDig_iff c).1 hc
    have hg : grow 0 c = 0 * 10 + (c.toNat - 48) := by unfold grow; rw [if_pos (by omega)]
    rw [List.foldl_cons, cstep_in rs cnt n c hc false, if_neg (by decide), hg, val, valFrom_cons]
    rw [List.length_cons] at h5
    refine fold_run rs cnt ds _ 1 ?_ (by omega) (fun x hx => hd x (by simp [hx]))
    omega
theorem fold_sep (rs : List Nat) (cnt n : Nat) (c : UInt8) (h : isDig c = false) (hc : cnt < 4) : [c].foldl cstep ⟨rs, cnt, true, n⟩ = ⟨rs.set cnt n, cnt + 1, false, n⟩ := by
  rw [List.foldl_cons, List.foldl_nil, cstep_out rs cnt n c h]
  simp only [put, if_pos hc]

theorem itoa_five (n : Nat) (h : n < 256) : (itoa n).length ≤ 5 := Nat.le_trans (itoa_byte ⟨n, h⟩).1 (by decide)
theorem cand_rend (v : Nat) (h : v < 16777216) : cand (rend v) = v := by
  have l1 := itoa_five (v / 65536) (by omega)
  have l2 := itoa_five (v / 256 % 256) (by omega)
  have l3 := itoa_five (v % 256) (by omega)
  have e : rend v = [49, 48] ++ [46] ++ itoa (v / 65536) ++ [46] ++ itoa (v / 256 % 256) ++ [46] ++ itoa (v % 256) ++ [58] ++ [55, 48, 48, 48] := by simp [rend]
  have f0 : ([49, 48] : List UInt8).foldl cstep ⟨[0, 0, 0, 0], 0, false, 0⟩ = ⟨[0, 0, 0, 0], 0, true, 10⟩ := by
    rw [fold_new _ _ _ _ (by decide) (by decide) (by decide +kernel)]
    have : val [49, 48] = 10 := by decide +kernel
    rw [this]
  have f9 : ∀ rs n, ([55, 48, 48, 48] : List UInt8).foldl cstep ⟨rs, 4, false, n⟩ = ⟨rs, 4, true, 7000⟩ := fun rs n => by
    rw [fold_new rs 4 n _ (by decide) (by decide) (by decide +kernel)]
    have : val [55, 48, 48, 48] = 7000 := by decide +kernel
    rw [this]
  have hf : cfold (rend v) = ⟨[10, v / 65536, v / 256 % 256, v % 256], 4, true, 7000⟩ := by
    unfold cfold
    rw [e]
    simp only [List.foldl_append]
    rw [f0, fold_sep _ _ _ 46 (by decide +kernel) (by omega), fold_new _ _ _ _ (itoa_pos _) l1 (itoa_dig _), itoa_val _ (by omega)]
    rw [fold_sep _ _ _ 46 (by decide +kernel) (by omega), fold_new _ _ _ _ (itoa_pos _) l2 (itoa_dig _), itoa_val _ (by omega)]
    rw [fold_sep _ _ _ 46 (by decide +kernel) (by omega), fold_new _ _ _ _ (itoa_pos _) l3 (itoa_dig _), itoa_val _ (by omega)]
    rw [fold_sep _ _ _ 58 (by decide +kernel) (by omega)]
    exact f9 _ _
  unfold cand
  rw [hf]
  simp [shut, put, join3]
  omega
end Go.Proofs.Qxb6604285a.Plain
