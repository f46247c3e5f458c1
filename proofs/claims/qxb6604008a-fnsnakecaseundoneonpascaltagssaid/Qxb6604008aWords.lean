/-
  The walks of zzlaws_root_b1.snakeByWords (7), hasByte (10) and pascalFromSnake (11): what each hands back, as a plain function of the bytes.
-/
import Derived.Test.Qxb6604008aProg
import Derived.Test.Qxb6604008aPlain
import Derived.WalkKit
import Derived.Lib.FrozenHead
import Derived.Laws.IdiomStrings
import Derived.KernelRfl
namespace Go.Proofs.Qxb6604008a
open Go.RowKit Plain

theorem info5 : (Try.prog.info? 5).map (fun i => (i.zero, i.size, i.bytes)) = some (some (.int .u8 0), 1, 1) := by kernel_rfl
theorem getD_at (s : ByteArray) (k : Nat) (h : k < s.size) : s.data.toList.getD k 0 = s[k] := by
  have h' : k < s.data.toList.length := by simpa using h
  simp only [List.getD, List.getElem?_eq_getElem h', Option.getD_some]
  rfl
theorem cap_part (c : UInt8) : c < 65 ∨ 90 < c ∨ isCap c = true := by
  rw [UInt8.lt_iff_toNat_lt, UInt8.lt_iff_toNat_lt, isCap_iff]
  have h1 : (65 : UInt8).toNat = 65 := rfl
  have h2 : (90 : UInt8).toNat = 90 := rfl
  omega
/-- The one new cell of 'append(out, x)'. -/
theorem one_new (w : World) (v : Value) (t : TypeId) : ∀ (j : Nat) (u : Value), [v][j]? = some u → (w.alloc (.cells #[v] t)).cell? ((⟨w.heap.size, 0, none⟩ : Addr).add j) = some u := by
  intro j u hj
  match j, hj with
  | 0, hj => simp at hj; subst hj; simp [Addr.add]
theorem one_cell (n : Int) : ∀ u ∈ [Value.int .u8 n], u.oneCell' = true := by intro u hu; simp at hu; subst hu; rfl
/-- 'string(out)' over a row of the call's own. -/
theorem conv_own (w : World) (B g cap : Nat) (l : List UInt8) (n : Nat) (hn : n = l.length) (h : w.ownsRow B 5 1 (.slice (some ⟨g, 0, none⟩) n cap) n (Lib.byteCells l)) :
    (convert 26 9 (.slice (some ⟨g, 0, none⟩) n cap)).run Try.prog w = .ok (.string ⟨l.toArray⟩) w := by
  subst hn
  refine run_convert_bytes_back (P := Try.prog) w 26 9 5 ⟨g, 0, none⟩ cap l Try.underlying26 Try.underlying5 Try.underlying9 fun j hj => ?_
  have := h.cellAt j (by omega)
  rw [show (⟨g, 0, none⟩ : Addr).add j = ⟨g, j, none⟩ by unfold Addr.add; split <;> simp_all, this]
  simp [Lib.byteCells, List.getElem?_eq_getElem hj]

theorem grow_no {s : ByteArray} {a b : Nat} (h : Hid (∀ j, a < j → j < b → isCap (s.data.toList.getD j 0) = false)) (hb : b < s.size) (hc : (s[b].toNat : Int) < 65 ∨ 90 < (s[b].toNat : Int)) :
    Hid (∀ j, a < j → j < b + 1 → isCap (s.data.toList.getD j 0) = false) := fun j h1 h2 => by
  by_cases e : j = b
  · subst e; rw [getD_at s j hb]; exact isCap_no _ (by omega)
  · exact h.out j h1 (by omega)

/-- One byte of a word more: the relation of the innermost loop. -/
theorem rel_word {s : ByteArray} {a b kk cap B : Nat} {zs : List UInt8} {n : Int} {w wr w2 : World} {o : Obj} (hak : a ≤ kk) (hkl : kk < b) (hks : kk < s.size)
    (hacap : 0 < a → isCap (s.data.toList.getD a 0) = true) (hno : a < kk → isCap (s.data.toList.getD kk 0) = false) (hzs : Hid (zs = mid s.data.toList a kk))
    (hown : w2.ownsRow B 5 1 (.slice (some ⟨B, 0, none⟩) (zs.length + 1) cap) (zs.length + 1) (Lib.byteCells zs ++ [.int .u8 n])) (hb : Below B w wr) (hg : (wr.alloc o).grownBy w2 (some B)) (hB : B ≤ wr.heap.size)
    (hn : ((low s[kk]).toNat : Int) = n) :
    ∃ (k' : Nat) (zs' : List UInt8), a ≤ k' ∧ k' ≤ b ∧ Value.int .i64 ((kk : Int) + 1) = .int .i64 k' ∧ Value.slice (some ⟨B, 0, none⟩) (zs.length + 1) cap = .slice (some ⟨B, 0, none⟩) zs'.length cap ∧
      w2.ownsRow B 5 1 (.slice (some ⟨B, 0, none⟩) zs'.length cap) zs'.length (Lib.byteCells zs') ∧ Hid (zs' = mid s.data.toList a k') ∧ Below B w w2 := by
  refine ⟨kk + 1, zs ++ [low s[kk]], by omega, by omega, by go_num, by simp, ?_, ?_, (hb.alloc hB _).grown hg (by simp; omega) (fun k hk => by cases hk; exact Nat.le_refl _)⟩
  · rw [Lib.byteCells_append, List.length_append]
    rw [← hn] at hown
    exact hown
  · show zs ++ [low s[kk]] = _
    rw [mid_succ s.data.toList a kk s[kk] (getD_at s kk hks) hak hacap (by rw [getD_at s kk hks] at hno; exact hno), hzs.out]

set_option maxHeartbeats 1600000 in
set_option maxRecDepth 100000 in
theorem byWords_any (s : ByteArray) (w : World) (hs : s.size ≤ 1048576) :
    Calls Try.prog 7 #[.string s] w fun e w' => e = .returned (.string ⟨(snk s.data.toList s.size).toArray⟩) ∧ Below w.heap.size w w' := by
  obtain ⟨i0, hi, hz0, hz1, hz2⟩ := info_parts info5
  go_enter Try.func7, Try.ntmps7
  go_wp2_with (at_make; refine wpList_make_own _ rfl _ _ 26 rfl w.heap.size 5 i0 (.int .u8 0) 1 Try.underlying26 hi hz0 hz1 _ _ _ (2 * s.size) rfl rfl (by omega) ?b2 ?b3 (Nat.le_refl _) ?_)
  case b2 => rw [hz2]; omega
  case b3 => unfold maxLen; omega
  intro w0 hown0 hgrow0
  go_wp2
  go_loopw [3, 4] (fun out st wr => ∃ (a : Nat) (xs : List UInt8), a ≤ s.size ∧ st = .int .i64 a ∧ out = .slice (some ⟨w.heap.size, 0, none⟩) xs.length (2 * s.size) ∧
      wr.ownsRow w.heap.size 5 1 (.slice (some ⟨w.heap.size, 0, none⟩) xs.length (2 * s.size)) xs.length (Lib.byteCells xs) ∧ Hid (xs = snk s.data.toList a) ∧ Hid (0 < a → a < s.size → isCap (s.data.toList.getD a 0) = true) ∧ Below w.heap.size w wr)
    (fun _ st _ => s.size - (intOf st).toNat)
  case atStart => exact ⟨0, [], Nat.zero_le _, rfl, rfl, hown0, rfl, fun h => absurd h (by omega), (Below.refl _ _).grown hgrow0 (Nat.le_refl _) (fun k h => by cases h)⟩
  case round =>
    obtain ⟨a, xs, ha, rfl, rfl, hown, hxs, hcap, hbel⟩ := hrel
    by_cases hlt : a < s.size
    · go_wp2
      go_loop [5] (fun e => ∃ b : Nat, a < b ∧ b ≤ s.size ∧ e = .int .i64 b ∧ Hid (∀ j, a < j → j < b → isCap (s.data.toList.getD j 0) = false)) (fun e => s.size - (intOf e).toNat)
      case atStart => exact ⟨a + 1, by omega, by omega, by go_num, fun j h1 h2 => by omega⟩
      case round =>
        obtain ⟨b, hab, hb, rfl, hno⟩ := hrel
        have hgo : (b < s.size ∧ s.data.toList.getD b 0 < 65) ∨ (b < s.size ∧ 90 < s.data.toList.getD b 0) ∨ (b < s.size → isCap (s.data.toList.getD b 0) = true) := by
          rcases cap_part (s.data.toList.getD b 0) with h | h | h
          · by_cases hb' : b < s.size
            · exact .inl ⟨hb', h⟩
            · exact .inr (.inr fun h' => absurd h' hb')
          · by_cases hb' : b < s.size
            · exact .inr (.inl ⟨hb', h⟩)
            · exact .inr (.inr fun h' => absurd h' hb')
          · exact .inr (.inr fun _ => h)
        rcases hgo with ⟨hbl, hc⟩ | ⟨hbl, hc⟩ | hstop
        · rw [getD_at s b hbl, UInt8.lt_iff_toNat_lt] at hc
          have hc' : (s[b].toNat : Int) < 65 := by have : (65 : UInt8).toNat = 65 := rfl; omega
          clear hc
          go_wp2
          go_round
          case rel => exact ⟨b + 1, by omega, by omega, by go_num, grow_no hno hbl (.inl hc')⟩
          case measure => simp [intOf]; omega
        · rw [getD_at s b hbl, UInt8.lt_iff_toNat_lt] at hc
          have hc' : 90 < (s[b].toNat : Int) := by have : (90 : UInt8).toNat = 90 := rfl; omega
          have hd : decide ((s[b].toNat : Int) ≤ 90) = false := by simpa using hc'
          clear hc
          go_wp2
          go_round
          case rel => exact ⟨b + 1, by omega, by omega, by go_num, grow_no hno hbl (.inr hc')⟩
          case measure => simp [intOf]; omega
        · have HS : Hid (b < s.size → isCap (s.data.toList.getD b 0) = true) := hstop
          have hcb : (h : b < s.size) → 65 ≤ (s[b].toNat : Int) ∧ (s[b].toNat : Int) ≤ 90 := fun h => by
            have := (isCap_iff _).1 (hstop h); rw [getD_at s b h] at this; omega
          clear hstop
          have hpart : (∃ h : b < s.size, 65 ≤ (s[b].toNat : Int) ∧ (s[b].toNat : Int) ≤ 90) ∨ s.size ≤ b := by
            by_cases h : b < s.size
            · exact .inl ⟨h, hcb h⟩
            · exact .inr (by omega)
          clear hcb
          have hm1 := snk_len s.data.toList a
          obtain ⟨wo, rfl⟩ : ∃ wo : World, wo = wr := ⟨_, rfl⟩
          rcases hpart with ⟨hbl, hc1, hc2⟩ | hbe
          have hd : decide ((s[b].toNat : Int) ≤ 90) = true := by simpa using hc2
          all_goals by_cases ha0 : 0 < a
          all_goals first
            | (have ha1 : 0 < a := ha0
               have hfit : xs.length + 1 ≤ 2 * s.size := by rw [hxs.out]; omega
               go_wp2_with (first | (at_builtin; refine wpList_append_fits _ rfl (.tmp 32) (.tmp 33) 26 rfl w.heap.size 5 i0 1 Try.underlying26 hi hz1 w.heap.size xs.length (2 * s.size) _ rfl (hown.alloc _) ⟨wo.heap.size, 0, none⟩ 1 1 [.int .u8 95] rfl rfl (one_new _ _ _) (one_cell _) hfit ?_) | go_in)
               intro w1 hown1 hgrow1
               go_wp2
               have hown2 : w1.ownsRow w.heap.size 5 1 (.slice (some ⟨w.heap.size, 0, none⟩) (xs ++ [95]).length (2 * s.size)) (xs ++ [95]).length (Lib.byteCells (xs ++ [95])) := by
                 rw [Lib.byteCells_append, List.length_append]; exact hown1
               have hb1 : Below w.heap.size w w1 := (hbel.alloc hbel.size _).grown hgrow1 (by simp; have := hbel.size; omega) (fun k hk => by cases hk; exact Nat.le_refl _)
               obtain ⟨ys, hys⟩ : ∃ ys, ys = xs ++ [95] := ⟨_, rfl⟩
               have hl : xs.length + 1 = ys.length := by rw [hys]; simp
               have HW : Hid (ys = mid s.data.toList a a) := by rw [hys, hxs.out, mid_start _ _ ha0]; exact rfl
               rw [← hys] at hown2
               rw [hl]
               clear hl hys hown1 hgrow1 hfit)
            | (obtain ⟨ys, rfl⟩ : ∃ ys, ys = xs := ⟨_, rfl⟩
               have hown2 := hown
               have hb1 := hbel
               have HW : Hid (ys = mid s.data.toList a a) := by rw [hxs.out, show a = 0 by omega, mid_zero]; exact rfl
               go_wp2)
          all_goals
            clear hown hbel hm1
            go_loopw [3, 6] (fun out k wr => ∃ (kk : Nat) (zs : List UInt8), a ≤ kk ∧ kk ≤ b ∧ k = .int .i64 kk ∧ out = .slice (some ⟨w.heap.size, 0, none⟩) zs.length (2 * s.size) ∧
                wr.ownsRow w.heap.size 5 1 (.slice (some ⟨w.heap.size, 0, none⟩) zs.length (2 * s.size)) zs.length (Lib.byteCells zs) ∧ Hid (zs = mid s.data.toList a kk) ∧ Below w.heap.size w wr)
              (fun _ k _ => b - (intOf k).toNat)
            case atStart => exact ⟨a, ys, Nat.le_refl _, by omega, rfl, rfl, hown2, HW, hb1⟩
            case round =>
              clear hown2 HW hb1
              obtain ⟨kk, zs, hak, hkb, rfl, rfl, hown3, hzs, hb3⟩ := hrel
              by_cases hkl : kk < b
              · have hks : kk < s.size := by omega
                have hfit : zs.length + 1 ≤ 2 * s.size := by have := mid_len s.data.toList a kk; rw [hzs.out]; omega
                have hno2 : Hid (a < kk → isCap (s.data.toList.getD kk 0) = false) := fun h => hno.out kk h hkl
                have hacap : Hid (0 < a → isCap (s.data.toList.getD a 0) = true) := fun h => hcap.out h hlt
                have hwr := hb3.size
                rcases (show (65 ≤ (s[kk].toNat : Int) ∧ (s[kk].toNat : Int) ≤ 90) ∨ (s[kk].toNat : Int) < 65 ∨ 90 < (s[kk].toNat : Int) from by omega) with ⟨k1, k2⟩ | k1 | k1
                · have kd : decide ((s[kk].toNat : Int) ≤ 90) = true := by simpa using k2
                  go_wp2_with (first | (at_builtin; refine wpList_append_fits _ rfl (.tmp 41) (.tmp 46) 26 rfl w.heap.size 5 i0 1 Try.underlying26 hi hz1 w.heap.size zs.length (2 * s.size) _ rfl (hown3.alloc _) ⟨wr.heap.size, 0, none⟩ 1 1 [.int .u8 ((s[kk].toNat : Int) + 32)] rfl rfl (one_new _ _ _) (one_cell _) hfit ?_) | go_in)
                  intro w2 hown4 hgrow4
                  go_wp2
                  go_roundw
                  case rel => exact rel_word hak hkl hks hacap.out hno2.out hzs hown4 hb3 hgrow4 hwr (int_low _ ((isCap_iff _).2 (by omega)))
                  case measure => simp [intOf]; omega
                all_goals
                  try have kd : decide ((s[kk].toNat : Int) ≤ 90) = false := by simpa using k1
                  go_wp2_with (first | (at_builtin; refine wpList_append_fits _ rfl (.tmp 41) (.tmp 46) 26 rfl w.heap.size 5 i0 1 Try.underlying26 hi hz1 w.heap.size zs.length (2 * s.size) _ rfl (hown3.alloc _) ⟨wr.heap.size, 0, none⟩ 1 1 [.int .u8 (s[kk].toNat : Int)] rfl rfl (one_new _ _ _) (one_cell _) hfit ?_) | go_in)
                  intro w2 hown4 hgrow4
                  go_wp2
                  go_roundw
                  case rel => exact rel_word hak hkl hks hacap.out hno2.out hzs hown4 hb3 hgrow4 hwr (by rw [low_no _ (isCap_no _ (by omega))])
                  case measure => simp [intOf]; omega
              · obtain rfl : kk = b := by omega
                go_wp2
                go_roundw
                case rel => exact ⟨kk, zs, hb, rfl, rfl, hown3, by rw [hzs.out, mid_past _ _ _ hab]; exact rfl, fun _ => HS.out, hb3⟩
                case measure => simp [intOf]; omega
    · have hae : a = s.size := by omega
      subst hae
      have hcv := conv_own wr w.heap.size w.heap.size (2 * s.size) xs xs.length rfl hown
      go_wp2
      go_ret
      rw [hxs.out]
      exact ⟨rfl, hbel⟩
end Go.Proofs.Qxb6604008a
