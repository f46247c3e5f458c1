/-
  The plain side of the two 'spot' laws: decimal digits, the address text, the reader, the candidate. No Go in sight.
-/
import Derived.Below
import Derived.Lib.Strings
namespace Go.Proofs.Qxb6604285a.Plain

def isDig (c : UInt8) : Bool := decide (48 ≤ c.toNat) && decide (c.toNat ≤ 57)
/-- The number that a row of digits spells, behind what has been read. -/
def valFrom (n : Nat) (l : List UInt8) : Nat := l.foldl (fun m c => m * 10 + (c.toNat - 48)) n
theorem valFrom_nil (n : Nat) : valFrom n [] = n := by unfold valFrom; rw [List.foldl_nil]
theorem valFrom_cons (n : Nat) (c : UInt8) (l : List UInt8) : valFrom n (c :: l) = valFrom (n * 10 + (c.toNat - 48)) l := by unfold valFrom; rw [List.foldl_cons]
def val (l : List UInt8) : Nat := valFrom 0 l
/-- The digit's character. -/
def dch (d : Nat) : UInt8 := UInt8.ofNat (48 + d)
/-- The decimal text, from its end. -/
def dec : Nat → Nat → List UInt8 → List UInt8
  | 0, _, acc => acc
  | f + 1, n, acc => if n / 10 = 0 then dch (n % 10) :: acc else dec f (n / 10) (dch (n % 10) :: acc)
def itoa (n : Nat) : List UInt8 := dec 10 n []
/-- The address text. -/
def rend (v : Nat) : List UInt8 := [49, 48, 46] ++ itoa (v / 65536) ++ [46] ++ itoa (v / 256 % 256) ++ [46] ++ itoa (v % 256) ++ [58, 55, 48, 48, 48]

theorem isDig_iff (c : UInt8) : isDig c = true ↔ 48 ≤ c.toNat ∧ c.toNat ≤ 57 := by simp [isDig]
theorem dch_fin : ∀ d : Fin 10, isDig (dch d.val) = true ∧ (dch d.val).toNat = 48 + d.val := by decide +kernel
theorem dch_lt (d : Nat) (h : d < 10) : isDig (dch d) = true ∧ (dch d).toNat = 48 + d := dch_fin ⟨d, h⟩
theorem dch_dig (n : Nat) : isDig (dch (n % 10)) = true := (dch_lt (n % 10) (Nat.mod_lt _ (by omega))).1
theorem dch_toNat (n : Nat) : (dch (n % 10)).toNat = 48 + n % 10 := (dch_lt (n % 10) (Nat.mod_lt _ (by omega))).2

theorem mul_ten (a p : Nat) : a * 10 * p = a * (p * 10) := by rw [Nat.mul_assoc, Nat.mul_comm 10 p]
theorem valFrom_add : ∀ (l : List UInt8) (a b : Nat), valFrom (a + b) l = a * 10 ^ l.length + valFrom b l
  | [], a, b => by rw [valFrom_nil, valFrom_nil, List.length_nil, Nat.pow_zero, Nat.mul_one]
  | c :: l, a, b => by
    have h := valFrom_add l (a * 10) (b * 10 + (c.toNat - 48))
    have e : (a + b) * 10 + (c.toNat - 48) = a * 10 + (b * 10 + (c.toNat - 48)) := by omega
    rw [valFrom_cons, valFrom_cons, List.length_cons, e, h, mul_ten, Nat.pow_succ]
theorem val_cons (c : UInt8) (l : List UInt8) : val (c :: l) = (c.toNat - 48) * 10 ^ l.length + val l := by
  have h := valFrom_add l (c.toNat - 48) 0
  unfold val
  rw [valFrom_cons, Nat.zero_mul, Nat.zero_add]
  rw [Nat.add_zero] at h
  exact h
theorem valFrom_snoc (l : List UInt8) (n : Nat) (c : UInt8) : valFrom n (l ++ [c]) = valFrom n l * 10 + (c.toNat - 48) := by
  unfold valFrom
  rw [List.foldl_append, List.foldl_cons, List.foldl_nil]
theorem val_snoc (l : List UInt8) (c : UInt8) : val (l ++ [c]) = val l * 10 + (c.toNat - 48) := valFrom_snoc l 0 c

theorem dec_val : ∀ (f n : Nat) (acc : List UInt8), n < 10 ^ f → val (dec f n acc) = n * 10 ^ acc.length + val acc
  | 0, n, acc, h => by
    have : n = 0 := by simpa using h
    subst this
    simp [dec]
  | f + 1, n, acc, h => by
    simp only [dec]
    split
    · rename_i h0
      rw [val_cons, dch_toNat]
      have : 48 + n % 10 - 48 = n := by omega
      rw [this]
    · rw [dec_val f (n / 10) _ (by rw [Nat.pow_succ] at h; omega), val_cons, dch_toNat, List.length_cons, Nat.pow_succ, Nat.mul_comm (10 ^ acc.length) 10, ← Nat.mul_assoc, ← Nat.add_assoc, ← Nat.add_mul]
      have : n / 10 * 10 + (48 + n % 10 - 48) = n := by omega
      rw [this]
theorem dec_dig : ∀ (f n : Nat) (acc : List UInt8), (∀ c ∈ acc, isDig c = true) → ∀ c ∈ dec f n acc, isDig c = true
  | 0, n, acc, h => h
  | f + 1, n, acc, h => by
    simp only [dec]
    have h' : ∀ c ∈ dch (n % 10) :: acc, isDig c = true := by
      intro c hc
      rcases List.mem_cons.1 hc with rfl | hc
      · exact dch_dig n
      · exact h c hc
    split
    · exact h'
    · exact dec_dig f _ _ h'
theorem dec_len : ∀ (f n : Nat) (acc : List UInt8), (dec f n acc).length ≤ acc.length + f
  | 0, n, acc => by simp [dec]
  | f + 1, n, acc => by
    simp only [dec]
    split
    · simp
    · have := dec_len f (n / 10) (dch (n % 10) :: acc); simp only [List.length_cons] at this; omega
theorem dec_pos : ∀ (f n : Nat) (acc : List UInt8), 0 < acc.length → 0 < (dec f n acc).length
  | 0, n, acc, h => h
  | f + 1, n, acc, h => by
    simp only [dec]
    split
    · simp
    · exact dec_pos f _ _ (by simp)
theorem itoa_val (n : Nat) (h : n < 10000000000) : val (itoa n) = n := by
  have hp : (10 : Nat) ^ 10 = 10000000000 := by decide +kernel
  have e := dec_val 10 n [] (by rw [hp]; exact h)
  unfold itoa
  rw [e, List.length_nil, Nat.pow_zero, Nat.mul_one, val, valFrom_nil, Nat.add_zero]
theorem itoa_dig (n : Nat) : ∀ c ∈ itoa n, isDig c = true := by
  unfold itoa
  exact dec_dig 10 n [] (fun _ h => by cases h)
theorem itoa_len (n : Nat) : (itoa n).length ≤ 10 := by
  unfold itoa
  have h := dec_len 10 n []
  rw [List.length_nil, Nat.zero_add] at h
  exact h
theorem dec_pos1 (f n : Nat) (acc : List UInt8) : 0 < (dec (f + 1) n acc).length := by
  simp only [dec]
  split
  · simp
  · exact dec_pos f _ _ (by simp)
theorem itoa_pos (n : Nat) : 0 < (itoa n).length := by
  unfold itoa
  exact dec_pos1 9 n []
theorem itoa_byte : ∀ n : Fin 256, (itoa n.val).length ≤ 3 ∧ (1 < (itoa n.val).length → (itoa n.val).getD 0 0 ≠ 48) := by decide +kernel

/-- How many digits open the text. -/
def dl : List UInt8 → Nat
  | [] => 0
  | c :: l => if isDig c then dl l + 1 else 0
/-- One field of the address: its number and what follows. -/
def oct (l : List UInt8) : Option (Nat × List UInt8) :=
  if 1 ≤ dl l ∧ dl l ≤ 3 ∧ val (l.take (dl l)) ≤ 255 ∧ (1 < dl l → l.getD 0 0 ≠ 48) then some (val (l.take (dl l)), l.drop (dl l)) else none
/-- Behind the fields: r are still to be read. -/
def spt : Nat → Nat → List UInt8 → Option Nat
  | 0, v, l => if l = [] then some v else none
  | r + 1, v, l => match oct l with
    | none => none
    | some (n, rest) => if r = 0 then spt 0 (v * 256 + n) rest else if rest.head? = some 46 then spt r (v * 256 + n) rest.tail else none

theorem dl_run : ∀ (ds rest : List UInt8), (∀ c ∈ ds, isDig c = true) → (∀ c, rest.head? = some c → isDig c = false) → dl (ds ++ rest) = ds.length
  | [], rest, _, h => by
    cases rest with
    | nil => rfl
    | cons c l => simp [dl, h c rfl]
  | c :: ds, rest, hd, h => by
    simp only [List.cons_append, dl, hd c (by simp), if_true, List.length_cons]
    rw [dl_run ds rest (fun x hx => hd x (by simp [hx])) h]
theorem dl_at : ∀ (l : List UInt8) (d : Nat), (∀ j, j < d → isDig (l.getD j 0) = true) → d ≤ l.length → (d = l.length ∨ isDig (l.getD d 0) = false) → dl l = d
  | [], d, _, h, _ => by simp at h; subst h; rfl
  | c :: l, 0, _, _, h => by
    rcases h with h | h
    · simp at h
    · have h' : isDig c = false := h
      simp [dl, h']
  | c :: l, d + 1, hd, hl, h => by
    have h0 : isDig c = true := hd 0 (by omega)
    simp only [dl, h0, if_true]
    rw [dl_at l d (fun j hj => hd (j + 1) (by omega)) (by simpa using hl) (by
      rcases h with h | h
      · exact .inl (by simpa using h)
      · exact .inr h)]

theorem oct_run (n : Nat) (hn : n < 10000000000) (rest : List UInt8) (h : ∀ c, rest.head? = some c → isDig c = false) : oct (itoa n ++ rest) = if n ≤ 255 then some (n, rest) else none := by
  have hd := dl_run (itoa n) rest (itoa_dig n) h
  have hp := itoa_pos n
  unfold oct
  rw [hd, List.take_left, List.drop_left, itoa_val n hn]
  have hg : (itoa n ++ rest).getD 0 0 = (itoa n).getD 0 0 := by
    rw [List.getD_eq_getElem?_getD, List.getElem?_append_left hp, List.getD_eq_getElem?_getD]
  by_cases h255 : n ≤ 255
  · obtain ⟨h1, h2⟩ := itoa_byte ⟨n, by omega⟩
    rw [if_pos h255, if_pos ⟨hp, h1, h255, fun h => by rw [hg]; exact h2 h⟩]
  · rw [if_neg h255, if_neg (fun h => h255 h.2.2.1)]

theorem spt_rend (v : Nat) (h : v < 4294967296) : spt 3 0 (itoa (v / 65536) ++ [46] ++ itoa (v / 256 % 256) ++ [46] ++ itoa (v % 256)) = if v < 16777216 then some v else none := by
  have e1 := oct_run (v / 65536) (by omega) ([46] ++ itoa (v / 256 % 256) ++ [46] ++ itoa (v % 256)) (fun c hc => by simp at hc; subst hc; rfl)
  have e2 := oct_run (v / 256 % 256) (by omega) ([46] ++ itoa (v % 256)) (fun c hc => by simp at hc; subst hc; rfl)
  have e3 := oct_run (v % 256) (by omega) [] (fun c hc => by simp at hc)
  rw [if_pos (by omega)] at e2 e3
  rw [List.append_nil] at e3
  have a1 : itoa (v / 65536) ++ [46] ++ itoa (v / 256 % 256) ++ [46] ++ itoa (v % 256) = itoa (v / 65536) ++ ([46] ++ itoa (v / 256 % 256) ++ [46] ++ itoa (v % 256)) := by simp
  rw [a1]
  simp only [spt, e1]
  by_cases hv : v < 16777216
  · rw [if_pos (show v / 65536 ≤ 255 by omega), if_pos hv]
    have t1 : ([46] ++ itoa (v / 256 % 256) ++ [46] ++ itoa (v % 256)).tail = itoa (v / 256 % 256) ++ ([46] ++ itoa (v % 256)) := by simp
    simp only [t1, e2]
    have t2 : ([46] ++ itoa (v % 256)).tail = itoa (v % 256) := by simp
    simp only [t2, e3]
    simp
    omega
  · rw [if_neg (show ¬ v / 65536 ≤ 255 by omega), if_neg hv]

/-! ### The other way: what is read was written so -/
theorem text3 : ∀ a b c : Fin 10, a.val ≠ 0 → 100 * a.val + 10 * b.val + c.val ≤ 255 → itoa (100 * a.val + 10 * b.val + c.val) = [dch a.val, dch b.val, dch c.val] := by decide +kernel
theorem text2 : ∀ a b : Fin 10, a.val ≠ 0 → itoa (10 * a.val + b.val) = [dch a.val, dch b.val] := by decide +kernel
theorem text1 : ∀ a : Fin 10, itoa a.val = [dch a.val] := by decide +kernel
theorem dch_of (c : UInt8) (h : isDig c = true) : ∃ d : Fin 10, c = dch d.val ∧ c.toNat - 48 = d.val := by
  have := (isDig_iff c).1 h
  refine ⟨⟨c.toNat - 48, by omega⟩, ?_, rfl⟩
  apply UInt8.toNat_inj.1
  have h := (dch_lt (c.toNat - 48) (by omega)).2
  show c.toNat = (dch (c.toNat - 48)).toNat
  rw [h]
  omega

theorem dl_le : ∀ l : List UInt8, dl l ≤ l.length
  | [] => Nat.le_refl _
  | c :: l => by simp only [dl]; split <;> simp [dl_le l]
theorem dl_take : ∀ l : List UInt8, ∀ c ∈ l.take (dl l), isDig c = true
  | [], c, h => by simp at h
  | a :: l, c, h => by
    simp only [dl] at h
    split at h
    · rename_i ha
      rcases List.mem_cons.1 (by simpa using h : c ∈ a :: l.take (dl l)) with rfl | h'
      · exact ha
      · exact dl_take l c h'
    · simp at h

theorem zero_char (x : Fin 10) {l : List UInt8} (h : x.val = 0) : (dch x.val :: l).getD 0 0 = 48 := by rw [h]; rfl
theorem val1 (a : UInt8) : val [a] = a.toNat - 48 := by rw [val, valFrom_cons, valFrom_nil, Nat.zero_mul, Nat.zero_add]
theorem val2 (a b : UInt8) : val [a, b] = 10 * (a.toNat - 48) + (b.toNat - 48) := by rw [val, valFrom_cons, valFrom_cons, valFrom_nil, Nat.zero_mul, Nat.zero_add, Nat.mul_comm]
theorem val3 (a b c : UInt8) : val [a, b, c] = 100 * (a.toNat - 48) + 10 * (b.toNat - 48) + (c.toNat - 48) := by rw [val, valFrom_cons, valFrom_cons, valFrom_cons, valFrom_nil, Nat.zero_mul, Nat.zero_add]; omega
theorem itoa_of (ds : List UInt8) (hd : ∀ c ∈ ds, isDig c = true) (h1 : 1 ≤ ds.length) (h3 : ds.length ≤ 3) (hv : val ds ≤ 255) (hz : 1 < ds.length → ds.getD 0 0 ≠ 48) : itoa (val ds) = ds := by
  match ds, hd, h1, h3, hv, hz with
  | [a], hd, _, _, hv, _ =>
    obtain ⟨x, rfl, hx⟩ := dch_of a (hd a (by simp))
    rw [val1, hx, text1]
  | [a, b], hd, _, _, hv, hz =>
    obtain ⟨x, rfl, hx⟩ := dch_of a (hd a (by simp))
    obtain ⟨y, rfl, hy⟩ := dch_of b (hd b (by simp))
    rw [val2, hx, hy, text2 x y]
    intro h0
    exact hz (by simp) (zero_char x h0)
  | [a, b, c], hd, _, _, hv, hz =>
    obtain ⟨x, rfl, hx⟩ := dch_of a (hd a (by simp))
    obtain ⟨y, rfl, hy⟩ := dch_of b (hd b (by simp))
    obtain ⟨z, rfl, hw⟩ := dch_of c (hd c (by simp))
    rw [val3, hx, hy, hw] at hv ⊢
    rw [text3 x y z _ hv]
    intro h0
    exact hz (by simp) (zero_char x h0)

theorem oct_some (l : List UInt8) (n : Nat) (rest : List UInt8) (h : oct l = some (n, rest)) : l = itoa n ++ rest ∧ n ≤ 255 := by
  unfold oct at h
  split at h
  · rename_i hc
    obtain ⟨c1, c2, c3, c4⟩ := hc
    simp only [Option.some.injEq, Prod.mk.injEq] at h
    obtain ⟨rfl, rfl⟩ := h
    have hle := dl_le l
    have hlen : (l.take (dl l)).length = dl l := by rw [List.length_take]; omega
    have := itoa_of (l.take (dl l)) (dl_take l) (by omega) (by omega) c3 (fun h => by
      have hg : (l.take (dl l)).getD 0 0 = l.getD 0 0 := by
        rw [List.getD_eq_getElem?_getD, List.getElem?_take, if_pos (by omega), List.getD_eq_getElem?_getD]
      rw [hg]; exact c4 (by omega))
    rw [this]
    exact ⟨(List.take_append_drop _ _).symm, c3⟩
  · cases h

theorem dot_of (l : List UInt8) (h : l.head? = some 46) : l = [46] ++ l.tail := by
  cases l with
  | nil => cases h
  | cons c l => simp at h; subst h; rfl
theorem spt_some (l : List UInt8) (v : Nat) (h : spt 3 0 l = some v) : v < 16777216 ∧ l = itoa (v / 65536) ++ [46] ++ itoa (v / 256 % 256) ++ [46] ++ itoa (v % 256) := by
  simp only [spt] at h
  cases e1 : oct l with
  | none => rw [e1] at h; cases h
  | some p1 =>
    obtain ⟨a, r1⟩ := p1
    rw [e1] at h
    obtain ⟨f1, b1⟩ := oct_some l a r1 e1
    simp only [Nat.succ_ne_zero, if_false] at h
    split at h
    · rename_i g1
      cases e2 : oct r1.tail with
      | none => rw [e2] at h; cases h
      | some p2 =>
        obtain ⟨b, r2⟩ := p2
        rw [e2] at h
        obtain ⟨f2, b2⟩ := oct_some _ b r2 e2
        simp only at h
        split at h
        · rename_i g2
          cases e3 : oct r2.tail with
          | none => rw [e3] at h; cases h
          | some p3 =>
            obtain ⟨c, r3⟩ := p3
            rw [e3] at h
            obtain ⟨f3, b3⟩ := oct_some _ c r3 e3
            simp only [if_true] at h
            split at h
            · rename_i g3
              simp only [Option.some.injEq] at h
              subst h
              refine ⟨by omega, ?_⟩
              rw [show (((0 * 256 + a) * 256 + b) * 256 + c) / 65536 = a by omega, show (((0 * 256 + a) * 256 + b) * 256 + c) / 256 % 256 = b by omega, show (((0 * 256 + a) * 256 + b) * 256 + c) % 256 = c by omega]
              rw [f1, dot_of r1 g1, f2, dot_of r2 g2, f3, g3]
              simp
            · cases h
        · cases h
    · cases h

/-- The whole reader. -/
def spotL (l : List UInt8) : Option Nat :=
  if Lib.hasPrefix l [49, 48, 46] = true then
    if Lib.hasSuffix (Lib.trimPrefix l [49, 48, 46]) [58, 55, 48, 48, 48] = true then spt 3 0 (Lib.trimSuffix (Lib.trimPrefix l [49, 48, 46]) [58, 55, 48, 48, 48]) else none
  else none
theorem pre_add (a b : List UInt8) : Lib.hasPrefix (a ++ b) a = true ∧ Lib.trimPrefix (a ++ b) a = b := by
  have hp : Lib.hasPrefix (a ++ b) a = true := by simp [Lib.hasPrefix]
  exact ⟨hp, by simp [Lib.trimPrefix, hp]⟩
theorem suf_add (a b : List UInt8) : Lib.hasSuffix (a ++ b) b = true ∧ Lib.trimSuffix (a ++ b) b = a := by
  have hp : Lib.hasSuffix (a ++ b) b = true := by simp [Lib.hasSuffix, List.isSuffixOf, List.isPrefixOf_iff_prefix]
  exact ⟨hp, by simp [Lib.trimSuffix, hp]⟩
theorem pre_of (l a : List UInt8) (h : Lib.hasPrefix l a = true) : l = a ++ Lib.trimPrefix l a := by
  obtain ⟨r, rfl⟩ : ∃ r, l = a ++ r := by
    have := List.isPrefixOf_iff_prefix.1 (show a.isPrefixOf l = true from h)
    obtain ⟨r, hr⟩ := this
    exact ⟨r, hr.symm⟩
  rw [(pre_add a r).2]
theorem suf_of (l a : List UInt8) (h : Lib.hasSuffix l a = true) : l = Lib.trimSuffix l a ++ a := by
  obtain ⟨r, rfl⟩ : ∃ r, l = r ++ a := by
    have := List.isSuffixOf_iff_suffix.1 (show a.isSuffixOf l = true from h)
    obtain ⟨r, hr⟩ := this
    exact ⟨r, hr.symm⟩
  rw [(suf_add r a).2]
theorem spotL_rend (v : Nat) (h : v < 4294967296) : spotL (rend v) = if v < 16777216 then some v else none := by
  have e : rend v = [49, 48, 46] ++ ((itoa (v / 65536) ++ [46] ++ itoa (v / 256 % 256) ++ [46] ++ itoa (v % 256)) ++ [58, 55, 48, 48, 48]) := by simp only [rend, List.append_assoc]
  obtain ⟨h1, h2⟩ := pre_add [49, 48, 46] ((itoa (v / 65536) ++ [46] ++ itoa (v / 256 % 256) ++ [46] ++ itoa (v % 256)) ++ [58, 55, 48, 48, 48])
  obtain ⟨h3, h4⟩ := suf_add (itoa (v / 65536) ++ [46] ++ itoa (v / 256 % 256) ++ [46] ++ itoa (v % 256)) [58, 55, 48, 48, 48]
  unfold spotL
  rw [e, h1, h2, h3, h4, if_pos rfl, if_pos rfl, spt_rend v h]
theorem spotL_some (l : List UInt8) (v : Nat) (h : spotL l = some v) : v < 16777216 ∧ l = rend v := by
  unfold spotL at h
  split at h
  · rename_i h1
    split at h
    · rename_i h2
      obtain ⟨hv, hl⟩ := spt_some _ v h
      refine ⟨hv, ?_⟩
      rw [pre_of l _ h1, suf_of _ _ h2, hl]
      simp only [rend, List.append_assoc]
    · cases h
  · cases h
theorem rend_len (v : Nat) : (rend v).length ≤ 40 := by
  have h1 := itoa_len (v / 65536)
  have h2 := itoa_len (v / 256 % 256)
  have h3 := itoa_len (v % 256)
  simp only [rend, List.length_append, List.length_cons, List.length_nil]
  omega
end Go.Proofs.Qxb6604285a.Plain
