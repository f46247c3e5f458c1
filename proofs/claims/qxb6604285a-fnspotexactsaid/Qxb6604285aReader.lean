/-
  The walks of overlace.spot (14) and ZZSpot (7): the reader 'spotL'.
-/
import Derived.Test.Qxb6604285aRender
import Derived.Test.Qxb6604285aShelf
import Derived.RegionTactic
import Derived.WalkSpells
namespace Go.Proofs.Qxb6604285a
open Go.RowKit Plain

/-- What spot hands back. -/
def spTuple : Option Nat → Value
  | some v => .tuple #[.int .u32 v, .bool true]
  | none => .tuple #[.int .u32 0, .bool false]

theorem getD_at (s : ByteArray) (k : Nat) (h : k < s.size) : s.data.toList.getD k 0 = s[k] := by
  have h' : k < s.data.toList.length := by simpa using h
  simp only [List.getD, List.getElem?_eq_getElem h', Option.getD_some]
  rfl
theorem or_low (a b : Int) (h0 : 0 ≤ a) (h1 : a < 65536) (b0 : 0 ≤ b) (b1 : b ≤ 255) : bits .or .u32 (a * 256) b = a * 256 + b := by
  rw [u32_or (a * 256) b (by omega) (by omega) b0 (by omega)]
  have : (a * 256).toNat ||| b.toNat = a.toNat * 256 + b.toNat := by
    rw [show (a * 256).toNat = 2 ^ 8 * a.toNat by omega, Nat.mul_comm a.toNat 256]
    exact (Nat.two_pow_add_eq_or_of_lt (show b.toNat < 2 ^ 8 by omega) a.toNat).symm
  rw [this]
  omega

theorem val_lt : ∀ l : List UInt8, (∀ c ∈ l, isDig c = true) → val l < 10 ^ l.length
  | [], _ => by rw [val, valFrom_nil]; simp
  | c :: l, h => by
    have ih := val_lt l (fun x hx => h x (by simp [hx]))
    have hc := (isDig_iff c).1 (h c (by simp))
    rw [val_cons, List.length_cons, Nat.pow_succ]
    have : (c.toNat - 48) * 10 ^ l.length ≤ 9 * 10 ^ l.length := Nat.mul_le_mul_right _ (by omega)
    omega

theorem digs_more {o : ByteArray} {d : Nat} (h : Hid (∀ j, j < d → isDig (o.data.toList.getD j 0) = true)) (hd : isDig (o.data.toList.getD d 0) = true) : Hid (∀ j, j < d + 1 → isDig (o.data.toList.getD j 0) = true) := fun j hj => by
  by_cases e : j = d
  · subst e; exact hd
  · exact h.out j (by omega)
theorem digs_mem {l : List UInt8} {d : Nat} (h : ∀ j, j < d → isDig (l.getD j 0) = true) : ∀ c ∈ l.take d, isDig c = true := fun c hc => by
  obtain ⟨j, hj, rfl⟩ := List.mem_iff_getElem.1 hc
  have hj' : j < d ∧ j < l.length := by rw [List.length_take] at hj; omega
  have := h j hj'.1
  rw [List.getElem_take]
  simpa [List.getD, List.getElem?_eq_getElem hj'.2] using this
theorem val_small {o : ByteArray} {d : Nat} {b : Int} (h : Hid (∀ j, j < d → isDig (o.data.toList.getD j 0) = true)) (hd : d ≤ o.size) (hb : Hid (d ≤ 3 → b = (val (o.data.toList.take d) : Int))) (h3 : d < 3) : b ≤ 99 := by
  have h1 := val_lt _ (digs_mem h.out)
  have hl : (o.data.toList.take d).length = d := by rw [List.length_take, ← Lib.size_eq]; omega
  rw [hl] at h1
  have h2 : 10 ^ d ≤ 10 ^ 2 := Nat.pow_le_pow_right (by omega) (by omega)
  have := hb.out (by omega)
  omega
theorem val_more {o : ByteArray} {d : Nat} {b : Int} (hd : d < o.size) (h3 : d < 3) (hb : Hid (d ≤ 3 → b = (val (o.data.toList.take d) : Int))) (hc : (48 : Int) ≤ (o[d].toNat : Int)) : Hid (d + 1 ≤ 3 → b * 10 + ((o[d].toNat : Int) - 48) = (val (o.data.toList.take (d + 1)) : Int)) := fun _ => by
  have h' : d < o.data.toList.length := by simpa using hd
  rw [List.take_succ_eq_append_getElem h', val_snoc, hb.out (by omega)]
  have e : o.data.toList[d] = o[d] := rfl
  rw [e]
  omega
theorem dl_here {o : ByteArray} {d : Nat} (h : Hid (∀ j, j < d → isDig (o.data.toList.getD j 0) = true)) (hd : d ≤ o.size) (hn : ¬ (d < o.size ∧ isDig (o.data.toList.getD d 0) = true)) : Hid (dl o.data.toList = d) := by
  refine dl_at _ d h.out (by rw [← Lib.size_eq]; exact hd) ?_
  by_cases e : d < o.size
  · exact .inr (Bool.eq_false_iff.2 (fun h => hn ⟨e, h⟩))
  · exact .inl (by rw [← Lib.size_eq]; omega)
theorem dig_no {c : UInt8} (h : isDig c = false) : (c.toNat : Int) < 48 ∨ 57 < (c.toNat : Int) := by
  have h1 : ¬ (48 ≤ c.toNat ∧ c.toNat ≤ 57) := fun h' => (Bool.eq_false_iff.1 h) ((isDig_iff c).2 h')
  omega

/-- The field: refused, and why; or read. -/
theorem octs {o : ByteArray} {d : Nat} {b : Int} (hdl : Hid (dl o.data.toList = d)) (hd : d ≤ o.size) (hb : Hid (d ≤ 3 → b = (val (o.data.toList.take d) : Int))) :
    (Hid (oct o.data.toList = none) ∧ (d = 0 ∨ 3 < d ∨ (1 ≤ d ∧ d ≤ 3 ∧ 255 < b) ∨ (∃ h : 0 < o.size, 1 < d ∧ d ≤ 3 ∧ b ≤ 255 ∧ ((o[0].toNat : Int) == 48) = true))) ∨
      (Hid (oct o.data.toList = some (b.toNat, o.data.toList.drop d)) ∧ 1 ≤ d ∧ d ≤ 3 ∧ b ≤ 255 ∧ (d = 1 ∨ ∃ h : 0 < o.size, 1 < d ∧ ((o[0].toNat : Int) == 48) = false)) := by
  have hdl := hdl.out
  unfold oct
  rw [hdl]
  by_cases h0 : 1 ≤ d
  · by_cases h3 : d ≤ 3
    · have hb := hb.out h3
      by_cases h255 : b ≤ 255
      · have hs : 0 < o.size := by omega
        have hg := getD_at o 0 hs
        rw [hg]
        by_cases h1 : d = 1
        · refine .inr ⟨?_, h0, h3, h255, .inl h1⟩
          show (if _ then _ else _) = _
          rw [if_pos ⟨h0, h3, by omega, fun h => by omega⟩, hb]
          rfl
        · cases hz : ((o[0].toNat : Int) == 48) with
          | true =>
            have hz' : o[0] = 48 := UInt8.toNat_inj.1 (by have : (o[0].toNat : Int) = 48 := by simpa using hz
                                                          have h48 : (48 : UInt8).toNat = 48 := rfl
                                                          omega)
            refine .inl ⟨?_, .inr (.inr (.inr ⟨hs, by omega, h3, h255, hz⟩))⟩
            show (if _ then _ else _) = _
            rw [if_neg (fun h => h.2.2.2 (by omega) hz')]
          | false =>
            have hz' : o[0] ≠ 48 := fun e => by rw [e] at hz; cases hz
            refine .inr ⟨?_, h0, h3, h255, .inr ⟨hs, by omega, hz⟩⟩
            show (if _ then _ else _) = _
            rw [if_pos ⟨h0, h3, by omega, fun _ => hz'⟩, hb]
            rfl
      · refine .inl ⟨?_, .inr (.inr (.inl ⟨h0, h3, by omega⟩))⟩
        show (if _ then _ else _) = _
        rw [if_neg (fun h => by have := h.2.2.1; omega)]
    · refine .inl ⟨?_, .inr (.inl (by omega))⟩
      show (if _ then _ else _) = _
      rw [if_neg (fun h => h3 h.2.1)]
  · refine .inl ⟨?_, .inl (by omega)⟩
    show (if _ then _ else _) = _
    rw [if_neg (fun h => h0 h.1)]

theorem spt_go {k x n : Nat} {l rest : List UInt8} {R : Option Nat} (hk : k < 2) (h : spt (3 - k) x l = R) (ho : oct l = some (n, rest)) (hp : Lib.hasPrefix rest [46] = true) : spt (3 - (k + 1)) (x * 256 + n) (Lib.trimPrefix rest [46]) = R := by
  have hr := pre_of rest [46] hp
  rw [show 3 - k = (3 - (k + 1)) + 1 by omega] at h
  simp only [spt, ho] at h
  rw [if_neg (by omega), if_pos (by rw [hr]; rfl)] at h
  have ht : rest.tail = Lib.trimPrefix rest [46] := by
    generalize Lib.trimPrefix rest [46] = r at hr ⊢
    rw [hr]; rfl
  rw [← ht]
  exact h
theorem spt_stop {k x n : Nat} {l rest : List UInt8} {R : Option Nat} (hk : k < 2) (h : spt (3 - k) x l = R) (ho : oct l = some (n, rest)) (hp : Lib.hasPrefix rest [46] = false) : R = none := by
  rw [show 3 - k = (3 - (k + 1)) + 1 by omega] at h
  simp only [spt, ho] at h
  rw [if_neg (by omega), if_neg] at h
  · exact h.symm
  · intro hh
    rw [dot_of rest hh, (pre_add [46] rest.tail).1] at hp
    cases hp
theorem spt_end {k x n : Nat} {l rest : List UInt8} {R : Option Nat} (hk : ¬ k < 2) (hk3 : k < 3) (h : spt (3 - k) x l = R) (ho : oct l = some (n, rest)) : spt (3 - (k + 1)) (x * 256 + n) rest = R := by
  obtain rfl : k = 2 := by omega
  rw [← h]
  show spt 0 (x * 256 + n) rest = spt (0 + 1) x l
  simp [spt, ho]
theorem rel_next {k x : Nat} {o o2 o3 : ByteArray} {d : Nat} {a b : Int} {R : Option Nat} (hk : k < 2) (hk1 : Hid (k ≤ 1 → a < 256)) (hk0 : Hid (k = 0 → a = 0)) (ha : Hid (a = (x : Int))) (a0 : 0 ≤ a) (a2 : a < 65536) (b0 : 0 ≤ b) (b1 : b ≤ 255)
    (hR : Hid (spt (3 - k) x o.data.toList = R)) (hs : Hid (oct o.data.toList = some (b.toNat, o.data.toList.drop d))) (ht : Hid (o2.data.toList = o.data.toList.drop d)) (h3 : Hid (o3.data.toList = Lib.trimPrefix o2.data.toList [46])) (hpf : Hid (true = Lib.hasPrefix o2.data.toList [46])) (hz : o3.size ≤ 1048576) {w wr : World} {B : Nat} (hbel : Below B w wr) :
    ∃ (k' x' : Nat) (o' : ByteArray) (a' : Int), k' ≤ 3 ∧ Value.int .i64 ((k : Int) + 1) = .int .i64 k' ∧ Value.string o3 = .string o' ∧ Value.int .u32 (a * 256 + b) = .int .u32 a' ∧ 0 ≤ a' ∧ a' < 16777216 ∧ o'.size ≤ 1048576 ∧ Hid (k' ≤ 2 → a' < 65536) ∧ Hid (k' ≤ 1 → a' < 256) ∧ Hid (k' = 0 → a' = 0) ∧ Hid (a' = (x' : Int)) ∧ Hid (spt (3 - k') x' o'.data.toList = R) ∧ Below B w wr.drew := by
  have ham := ha.out
  refine ⟨k + 1, x * 256 + b.toNat, o3, a * 256 + b, by omega, by go_num, rfl, rfl, by omega, by omega, hz, fun _ => ?_, fun _ => ?_, fun h => by omega, ?_, ?_, hbel.drew⟩
  · have := hk1.out (by omega); omega
  · have := hk0.out (by omega); omega
  · show a * 256 + b = _
    omega
  · show spt (3 - (k + 1)) (x * 256 + b.toNat) o3.data.toList = R
    rw [h3.out, ht.out]
    have hp := hpf.out
    rw [ht.out] at hp
    exact spt_go hk hR.out hs.out hp.symm

theorem rel_last {k x : Nat} {o o2 : ByteArray} {d : Nat} {a b : Int} {R : Option Nat} (hk : ¬ k < 2) (hk3 : k < 3) (ha : Hid (a = (x : Int))) (a0 : 0 ≤ a) (a2 : a < 65536) (b0 : 0 ≤ b) (b1 : b ≤ 255)
    (hR : Hid (spt (3 - k) x o.data.toList = R)) (hs : Hid (oct o.data.toList = some (b.toNat, o.data.toList.drop d))) (ht : Hid (o2.data.toList = o.data.toList.drop d)) (hz : o2.size ≤ 1048576) {w wr : World} {B : Nat} (hbel : Below B w wr) :
    ∃ (k' x' : Nat) (o' : ByteArray) (a' : Int), k' ≤ 3 ∧ Value.int .i64 ((k : Int) + 1) = .int .i64 k' ∧ Value.string o2 = .string o' ∧ Value.int .u32 (a * 256 + b) = .int .u32 a' ∧ 0 ≤ a' ∧ a' < 16777216 ∧ o'.size ≤ 1048576 ∧ Hid (k' ≤ 2 → a' < 65536) ∧ Hid (k' ≤ 1 → a' < 256) ∧ Hid (k' = 0 → a' = 0) ∧ Hid (a' = (x' : Int)) ∧ Hid (spt (3 - k') x' o'.data.toList = R) ∧ Below B w wr.drew := by
  have ham := ha.out
  refine ⟨k + 1, x * 256 + b.toNat, o2, a * 256 + b, by omega, by go_num, rfl, rfl, by omega, by omega, hz, fun _ => by omega, fun _ => by omega, fun h => by omega, ?_, ?_, hbel.drew⟩
  · show a * 256 + b = _
    omega
  · show spt (3 - (k + 1)) (x * 256 + b.toNat) o2.data.toList = R
    rw [ht.out]
    exact spt_end hk hk3 hR.out hs.out

set_option maxHeartbeats 20000000 in
set_option maxRecDepth 100000 in
theorem spot_any (s : ByteArray) (hs : s.size ≤ 1048576) (w : World) :
    Calls Try.prog 14 #[.string s] w fun e w' => e = .returned (spTuple (spotL s.data.toList)) ∧ Below w.heap.size w w' := by
  have hC := (Try.strings_CutPrefix s ⟨#[49, 48, 46]⟩ w).mono (fun e w' h => And.intro h.1 h.2.symm)
  have hp : (⟨#[49, 48, 46]⟩ : ByteArray).data.toList = [49, 48, 46] := rfl
  rw [hp] at hC
  have hle : (Lib.trimPrefix s.data.toList [49, 48, 46]).length ≤ s.size := by have := Lib.trimPrefix_le s.data.toList [49, 48, 46]; rw [Lib.size_eq]; exact this
  unfold spotL
  generalize Lib.trimPrefix s.data.toList [49, 48, 46] = m0 at hC hle ⊢
  cases h1 : Lib.hasPrefix s.data.toList [49, 48, 46] with
  | false =>
    rw [h1] at hC
    rw [if_neg (by simp)]
    clear h1 hp
    go_enter Try.func14, Try.ntmps14
    go_wp2_with (go_at_call 17; refine hC.mono ?_; rintro e w1 ⟨rfl, rfl⟩)
    go_ret2
    exact ⟨rfl, Below.refl _ _⟩
  | true =>
    rw [h1] at hC
    rw [if_pos rfl]
    obtain ⟨t, ht⟩ : ∃ t : ByteArray, t = ⟨m0.toArray⟩ := ⟨_, rfl⟩
    have htd : t.data.toList = m0 := by rw [ht]
    have hts : t.size ≤ 1048576 := by rw [Lib.size_eq, htd]; omega
    rw [← ht] at hC
    have hD := (Try.strings_CutSuffix t ⟨#[58, 55, 48, 48, 48]⟩ w (by omega)).mono (fun e w' h => And.intro h.1 h.2.symm)
    have hp2 : (⟨#[58, 55, 48, 48, 48]⟩ : ByteArray).data.toList = [58, 55, 48, 48, 48] := rfl
    rw [hp2, htd] at hD
    have hle2 : (Lib.trimSuffix m0 [58, 55, 48, 48, 48]).length ≤ m0.length := Lib.trimSuffix_le _ _
    generalize Lib.trimSuffix m0 [58, 55, 48, 48, 48] = m at hD hle2 ⊢
    cases h2 : Lib.hasSuffix m0 [58, 55, 48, 48, 48] with
    | false =>
      rw [h2] at hD
      rw [if_neg (by simp)]
      clear h1 h2 hp hp2 ht htd
      go_enter Try.func14, Try.ntmps14
      go_wp2_with (first | (go_at_call 17; refine hC.mono ?_; rintro e w1 ⟨rfl, rfl⟩) | (go_at_call 18; refine hD.mono ?_; rintro e w1 ⟨rfl, rfl⟩))
      go_ret2
      exact ⟨rfl, Below.refl _ _⟩
    | true =>
      rw [h2] at hD
      rw [if_pos rfl]
      obtain ⟨q, hq⟩ : ∃ q : ByteArray, q = ⟨m.toArray⟩ := ⟨_, rfl⟩
      have hqd : Hid (q.data.toList = m) := by show _ = _; rw [hq]
      have hqs : q.size ≤ 1048576 := by rw [Lib.size_eq, hqd.out]; omega
      rw [← hq] at hD
      generalize hR : spt 3 0 m = R
      have HR : Hid (spt 3 0 m = R) := hR
      clear h1 h2 hp hp2 ht htd hle hle2 hR hq
      go_enter Try.func14, Try.ntmps14
      go_wp2_with (first | (go_at_call 17; refine hC.mono ?_; rintro e w1 ⟨rfl, rfl⟩) | (go_at_call 18; refine hD.mono ?_; rintro e w1 ⟨rfl, rfl⟩))
      clear hC hD
      go_loopw [4, 6, 23] (fun vo vv vi wr => ∃ (k x : Nat) (o : ByteArray) (a : Int), k ≤ 3 ∧ vi = .int .i64 k ∧ vo = .string o ∧ vv = .int .u32 a ∧ 0 ≤ a ∧ a < 16777216 ∧ o.size ≤ 1048576 ∧ Hid (k ≤ 2 → a < 65536) ∧ Hid (k ≤ 1 → a < 256) ∧ Hid (k = 0 → a = 0) ∧ Hid (a = (x : Int)) ∧ Hid (spt (3 - k) x o.data.toList = R) ∧ Below w.heap.size w wr) (fun _ _ vi _ => 3 - (intOf vi).toNat)
      case atStart => exact ⟨0, 0, q, 0, by omega, rfl, rfl, rfl, by omega, by omega, hqs, fun _ => by omega, fun _ => by omega, fun _ => rfl, rfl, by show spt 3 0 q.data.toList = R; rw [hqd.out]; exact HR.out, Below.refl _ _⟩
      case round =>
        obtain ⟨k, x, o, a, hk, rfl, rfl, rfl, a0, a1, hos, hk2, hk1, hk0, ha, hR, hbel⟩ := hrel
        by_cases hlt : k < 3
        · go_wp2
          go_loop [8, 9] (fun vn vd => ∃ (d : Nat) (b : Int), d ≤ o.size ∧ vd = .int .i64 d ∧ vn = .int .u32 b ∧ 0 ≤ b ∧ b < 4294967296 ∧ Hid (d ≤ 3 → b = (val (o.data.toList.take d) : Int)) ∧ Hid (∀ j, j < d → isDig (o.data.toList.getD j 0) = true)) (fun _ vd => o.size - (intOf vd).toNat)
          case atStart => exact ⟨0, 0, by omega, rfl, rfl, by omega, by omega, fun _ => by rw [List.take_zero, val, valFrom_nil]; rfl, fun j hj => by omega⟩
          case round =>
            obtain ⟨d, b, hd, rfl, rfl, b0, b1, hb, hdig⟩ := hrel
            by_cases hgo : d < o.size ∧ isDig (o.data.toList.getD d 0) = true
            · obtain ⟨hdl, hdg⟩ := hgo
              have HD := digs_more hdig hdg
              rw [getD_at o d hdl] at hdg
              have hcc := (isDig_iff _).1 hdg
              have k1 : (48 : Int) ≤ (o[d].toNat : Int) := by omega
              have k2 : (o[d].toNat : Int) ≤ 57 := by omega
              have kd : decide ((o[d].toNat : Int) ≤ 57) = true := by simpa using k2
              clear hdg hcc
              by_cases hd3 : d < 3
              · have hb99 := val_small hdig hd hb hd3
                have HV := val_more hdl hd3 hb k1
                go_wp2
                go_round
                case rel => exact ⟨d + 1, b * 10 + ((o[d].toNat : Int) - 48), by omega, by go_num, rfl, by omega, by omega, HV, HD⟩
                case measure => simp [intOf]; omega
              · go_wp2
                go_round
                case rel => exact ⟨d + 1, _, by omega, by go_num, rfl, by omega, by omega, fun h => by omega, HD⟩
                case measure => simp [intOf]; omega
            · have hdl := dl_here hdig hd hgo
              have hway : (∃ h : d < o.size, (o[d].toNat : Int) < 48) ∨ (∃ h : d < o.size, 57 < (o[d].toNat : Int)) ∨ o.size ≤ d := by
                by_cases h : d < o.size
                · have hn : isDig o[d] = false := by rw [← getD_at o d h]; exact Bool.eq_false_iff.2 (fun e => hgo ⟨h, e⟩)
                  rcases dig_no hn with h' | h'
                  · exact .inl ⟨h, h'⟩
                  · exact .inr (.inl ⟨h, h'⟩)
                · exact .inr (.inr (by omega))
              clear hgo
              have a2 : a < 65536 := hk2.out (by omega)
              rcases octs hdl hd hb with ⟨hnone, hc⟩ | ⟨hsome, hd1, hd3, hb255, hc⟩
              · have HN : Hid (R = none) := by
                  show R = none
                  rw [← hR.out, show 3 - k = (2 - k) + 1 by omega]
                  simp only [spt, hnone.out]
                clear hnone hR hdl hb hdig
                rcases hc with hc | hc | ⟨hc1, hc2, hc3⟩ | ⟨h0, hc1, hc2, hc3, hc4⟩
                · have hz : ((d : Int) == 0) = true := by rw [beq_iff_eq]; omega
                  clear hc
                  rcases hway with ⟨hd', hw⟩ | ⟨hd', hw⟩ | hw
                  all_goals
                    try have kd : decide ((o[d].toNat : Int) ≤ 57) = false := by simpa using hw
                    go_wp2
                    go_ret2
                    rw [HN.out]
                    exact ⟨rfl, hbel⟩
                · have hz : ((d : Int) == 0) = false := by rw [beq_eq_false_iff_ne]; omega
                  rcases hway with ⟨hd', hw⟩ | ⟨hd', hw⟩ | hw
                  all_goals
                    try have kd : decide ((o[d].toNat : Int) ≤ 57) = false := by simpa using hw
                    go_wp2
                    go_ret2
                    rw [HN.out]
                    exact ⟨rfl, hbel⟩
                · have hz : ((d : Int) == 0) = false := by rw [beq_eq_false_iff_ne]; omega
                  rcases hway with ⟨hd', hw⟩ | ⟨hd', hw⟩ | hw
                  all_goals
                    try have kd : decide ((o[d].toNat : Int) ≤ 57) = false := by simpa using hw
                    go_wp2
                    go_ret2
                    rw [HN.out]
                    exact ⟨rfl, hbel⟩
                · have hz : ((d : Int) == 0) = false := by rw [beq_eq_false_iff_ne]; omega
                  rcases hway with ⟨hd', hw⟩ | ⟨hd', hw⟩ | hw
                  all_goals
                    try have kd : decide ((o[d].toNat : Int) ≤ 57) = false := by simpa using hw
                    go_wp2
                    go_ret2
                    rw [HN.out]
                    exact ⟨rfl, hbel⟩
              · have hz : ((d : Int) == 0) = false := by rw [beq_eq_false_iff_ne]; omega
                have hds : d ≤ o.size := hd
                have hsl : ∀ W, (Instr.slice 9 (.string o) (some (.int .i64 d)) none none).run Try.prog W = .ok (.string (o.extract d o.size)) W := fun W => by
                  rw [run_slice_string_from_if W 9 o .i64 _ Try.underlying9, if_pos ⟨by omega, by omega⟩]
                  rfl
                have htl : (o.extract d o.size).data.toList = o.data.toList.drop d := by
                  rw [Lib.extract_data, List.take_of_length_le (by rw [List.length_drop, ← Lib.size_eq]; omega)]
                have hts : (o.extract d o.size).size ≤ 1048576 := by rw [Lib.size_eq, htl, List.length_drop, ← Lib.size_eq]; omega
                generalize o.extract d o.size = o2 at hsl htl hts
                have HT : Hid (o2.data.toList = o.data.toList.drop d) := htl
                have hor := or_low a b a0 a2 b0 hb255
                clear htl hdl hb hdig
                have hP := fun W => (Try.strings_CutPrefix o2 ⟨#[46]⟩ W).mono (fun e w' h => And.intro h.1 h.2.symm)
                have hp46 : (⟨#[46]⟩ : ByteArray).data.toList = [46] := rfl
                rw [hp46] at hP
                obtain ⟨o3, ho3⟩ : ∃ o3 : ByteArray, o3 = ⟨(Lib.trimPrefix o2.data.toList [46]).toArray⟩ := ⟨_, rfl⟩
                have ho3d : Hid (o3.data.toList = Lib.trimPrefix o2.data.toList [46]) := by show _ = _; rw [ho3]
                have ho3s : o3.size ≤ 1048576 := by
                  have h1 := Lib.trimPrefix_le o2.data.toList [46]
                  rw [← Lib.size_eq] at h1
                  rw [Lib.size_eq, ho3d.out]; omega
                rw [← ho3] at hP
                clear ho3 hp46
                obtain ⟨pf, hpf⟩ : ∃ pf, pf = Lib.hasPrefix o2.data.toList [46] := ⟨_, rfl⟩
                have HPF : Hid (pf = Lib.hasPrefix o2.data.toList [46]) := hpf
                rw [← hpf] at hP
                clear hpf
                have hkw : (k < 2 ∧ pf = true) ∨ (k < 2 ∧ pf = false) ∨ ¬ k < 2 := by cases pf <;> simp <;> omega
                rcases hkw with ⟨hk', rfl⟩ | ⟨hk', rfl⟩ | hk'
                · have REL := rel_next hk' hk1 hk0 ha a0 a2 b0 hb255 hR hsome HT ho3d HPF ho3s hbel
                  clear hk2 hk1 hk0 ha hR hsome HT ho3d HPF
                  rcases hway with ⟨hd', hw⟩ | ⟨hd', hw⟩ | hw <;> rcases hc with hc | ⟨h0, hc5, hc4⟩
                  all_goals
                    try have kd : decide ((o[d].toNat : Int) ≤ 57) = false := by simpa using hw
                    try have hd1' : ¬ (1 : Int) < (d : Int) := by omega
                    try clear hc
                    go_wp2
                    go_region
                    go_wp2_with (go_at_call 17; refine (hP _).mono ?_; rintro e w1 ⟨rfl, rfl⟩)
                    go_roundw
                    case rel => exact REL
                    case measure => simp [intOf]; omega
                · have HN : Hid (R = none) := spt_stop hk' hR.out hsome.out (by rw [← HT.out]; exact HPF.out.symm)
                  clear hk2 hk1 hk0 ha hR hsome HT ho3d HPF
                  rcases hway with ⟨hd', hw⟩ | ⟨hd', hw⟩ | hw <;> rcases hc with hc | ⟨h0, hc5, hc4⟩
                  all_goals
                    try have kd : decide ((o[d].toNat : Int) ≤ 57) = false := by simpa using hw
                    try have hd1' : ¬ (1 : Int) < (d : Int) := by omega
                    try clear hc
                    go_wp2
                    go_region
                    go_wp2_with (go_at_call 17; refine (hP _).mono ?_; rintro e w1 ⟨rfl, rfl⟩)
                    go_ret2
                    rw [HN.out]
                    exact ⟨rfl, hbel.drew⟩
                · have REL := rel_last hk' hlt ha a0 a2 b0 hb255 hR hsome HT hts hbel
                  clear hk2 hk1 hk0 ha hR hsome HT ho3d HPF hP
                  rcases hway with ⟨hd', hw⟩ | ⟨hd', hw⟩ | hw <;> rcases hc with hc | ⟨h0, hc5, hc4⟩
                  all_goals
                    try have kd : decide ((o[d].toNat : Int) ≤ 57) = false := by simpa using hw
                    try have hd1' : ¬ (1 : Int) < (d : Int) := by omega
                    try clear hc
                    go_wp2
                    go_region
                    go_wp2
                    go_roundw
                    case rel => exact REL
                    case measure => simp [intOf]; omega
        · obtain rfl : k = 3 := by omega
          have hR' : spt 0 x o.data.toList = R := hR.out
          simp only [spt] at hR'
          by_cases he : o.data.toList = []
          · have hem : o.toList.isEmpty = true := by
              rw [← decide_eq_emptyBytes]
              exact decide_eq_true (ByteArray.ext (by cases h : o.data with | mk l => rw [h] at he; simp at he; rw [he]; rfl))
            rw [if_pos he] at hR'
            have HZ : Hid (R = some x) := hR'.symm
            have ham := ha.out
            have HA : Hid (a = (x : Int)) := ha
            clear hR' he hR ha ham
            go_wp2
            go_ret2
            rw [HZ.out]
            refine ⟨?_, hbel⟩
            rw [HA.out]
            rfl
          · have hem : o.toList.isEmpty = false := by
              rw [← decide_eq_emptyBytes]
              exact decide_eq_false (fun h => he (by rw [h]; rfl))
            rw [if_neg he] at hR'
            have HZ : Hid (R = none) := hR'.symm
            clear hR' he hR ha
            go_wp2
            go_ret2
            rw [HZ.out]
            exact ⟨rfl, hbel⟩

theorem zzSpot_any (s : ByteArray) (hs : s.size ≤ 1048576) (w : World) :
    Calls Try.prog 7 #[.string s] w fun e w' => e = .returned (spTuple (spotL s.data.toList)) ∧ Below w.heap.size w w' := by
  have h := spot_any s hs w
  cases hr : spotL s.data.toList with
  | none =>
    rw [hr] at h
    have h' : Calls Try.prog 14 #[.string s] w fun e w' => e = .returned (.tuple #[.int .u32 0, .bool false]) ∧ Below w.heap.size w w' := h
    clear h hr
    go_enter Try.func7, Try.ntmps7
    go_wp2_with (go_at_call 14; refine h'.mono ?_)
    rintro e w1 ⟨rfl, hb⟩
    try intro hb
    go_wp2
    go_ret2
    exact ⟨rfl, hb⟩
  | some v =>
    rw [hr] at h
    have h' : Calls Try.prog 14 #[.string s] w fun e w' => e = .returned (.tuple #[.int .u32 v, .bool true]) ∧ Below w.heap.size w w' := h
    clear h hr
    go_enter Try.func7, Try.ntmps7
    go_wp2_with (go_at_call 14; refine h'.mono ?_)
    rintro e w1 ⟨rfl, hb⟩
    try intro hb
    go_wp2
    go_ret2
    exact ⟨rfl, hb⟩
end Go.Proofs.Qxb6604285a
