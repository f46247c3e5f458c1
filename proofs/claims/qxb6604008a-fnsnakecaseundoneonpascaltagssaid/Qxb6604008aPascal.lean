/-
  The walks of hasByte (10) and pascalFromSnake (11).
-/
import Derived.Test.Qxb6604008aWords
namespace Go.Proofs.Qxb6604008a
open Go.RowKit Plain

set_option maxHeartbeats 800000 in
theorem hasByte_no (s : ByteArray) (w : World) (hs : s.size ≤ 1048576) (hno : ∀ k (hk : k < s.size), ((s[k].toNat : Int) == 95) = false) :
    Calls Try.prog 10 #[.string s, .int .u8 95] w fun e w' => e = .returned (.bool false) ∧ w' = w := by
  have HN : Hid (∀ k (hk : k < s.size), ((s[k].toNat : Int) == 95) = false) := hno
  clear hno
  go_enter Try.func10, Try.ntmps10
  go_wp2
  go_loop [5] (fun i => ∃ k : Nat, k ≤ s.size ∧ i = .int .i64 k) (fun i => s.size - (intOf i).toNat)
  case atStart => exact ⟨0, Nat.zero_le _, rfl⟩
  case round =>
    obtain ⟨k, hk, rfl⟩ := hrel
    by_cases hlt : k < s.size
    · have hc := HN.out k hlt
      go_wp2
      go_round
      case rel => exact ⟨k + 1, by omega, by go_num⟩
      case measure => simp [intOf]; omega
    · go_wp2
      go_ret
      exact ⟨rfl, rfl⟩

set_option maxHeartbeats 800000 in
theorem hasByte_yes (s : ByteArray) (w : World) (hs : s.size ≤ 1048576) (k0 : Nat) (hk0 : k0 < s.size) (h0 : ((s[k0].toNat : Int) == 95) = true) :
    Calls Try.prog 10 #[.string s, .int .u8 95] w fun e w' => e = .returned (.bool true) ∧ w' = w := by
  have HN : Hid (((s[k0].toNat : Int) == 95) = true) := h0
  clear h0
  go_enter Try.func10, Try.ntmps10
  go_wp2
  go_loop [5] (fun i => ∃ k : Nat, k ≤ k0 ∧ i = .int .i64 k) (fun i => s.size - (intOf i).toNat)
  case atStart => exact ⟨0, Nat.zero_le _, rfl⟩
  case round =>
    obtain ⟨k, hk, rfl⟩ := hrel
    have hlt : k < s.size := by omega
    cases hc : ((s[k].toNat : Int) == 95) with
    | true =>
      go_wp2
      go_ret
      exact ⟨rfl, rfl⟩
    | false =>
      have hne : k ≠ k0 := fun e => by subst e; have := HN.out; rw [hc] at this; cases this
      have hlt2 : k < k0 := by omega
      clear hne
      go_wp2
      go_round
      case rel => exact ⟨k + 1, by omega, by go_num⟩
      case measure => simp [intOf]; omega

theorem int_up (c : UInt8) (h : 97 ≤ (c.toNat : Int)) : ((c - 32).toNat : Int) = (c.toNat : Int) - 32 := by
  have h32 : (32 : UInt8).toNat = 32 := rfl
  rw [UInt8.toNat_sub_of_le c 32 (by rw [UInt8.le_iff_toNat_le]; omega)]
  omega
theorem take_at (s : ByteArray) (k : Nat) (h : k < s.size) : s.data.toList.take (k + 1) = s.data.toList.take k ++ [s[k]] := by
  rw [take_snoc _ _ (by simpa using h), getD_at s k h]
theorem is95 (c : UInt8) (h : ((c.toNat : Int) == 95) = true) : c = 95 := by
  have h' : (c.toNat : Int) = 95 := by simpa using h
  have h95 : (95 : UInt8).toNat = 95 := rfl
  exact UInt8.toNat_inj.1 (by omega)
theorem not95 (c : UInt8) (h : ((c.toNat : Int) == 95) = false) : c ≠ 95 := by
  rintro rfl
  have h95 : (95 : UInt8).toNat = 95 := rfl
  simp at h

theorem pas_room (s : ByteArray) (k : Nat) (u : Bool) (xs : List UInt8) (h : (u, xs) = pas (s.data.toList.take k)) : xs.length ≤ k := by
  have h1 := pas_len (s.data.toList.take k)
  rw [← h] at h1
  have h2 : (s.data.toList.take k).length ≤ k := List.length_take_le _ _
  exact Nat.le_trans h1 h2

/-- A byte more is gathered: the relation of pascalFromSnake's loop. -/
theorem rel_pas {s : ByteArray} {k cap B : Nat} {xs : List UInt8} {u : Bool} {c : UInt8} {n : Int} {w wr w2 : World} {o : Obj} (hk : k < s.size)
    (hxs : Hid ((u, xs) = pas (s.data.toList.take k))) (hp : pst (u, xs) s[k] = (false, xs ++ [c]))
    (hown : w2.ownsRow B 5 1 (.slice (some ⟨B, 0, none⟩) (xs.length + 1) cap) (xs.length + 1) (Lib.byteCells xs ++ [.int .u8 n])) (hb : Below B w wr) (hg : (wr.alloc o).grownBy w2 (some B)) (hB : B ≤ wr.heap.size)
    (hn : (c.toNat : Int) = n) :
    ∃ (k' : Nat) (u' : Bool) (xs' : List UInt8), k' ≤ s.size ∧ Value.int .i64 ((k : Int) + 1) = .int .i64 k' ∧ Value.bool false = .bool u' ∧ Value.slice (some ⟨B, 0, none⟩) (xs.length + 1) cap = .slice (some ⟨B, 0, none⟩) xs'.length cap ∧
      w2.ownsRow B 5 1 (.slice (some ⟨B, 0, none⟩) xs'.length cap) xs'.length (Lib.byteCells xs') ∧ Hid ((u', xs') = pas (s.data.toList.take k')) ∧ Below B w w2 := by
  refine ⟨k + 1, false, xs ++ [c], by omega, by go_num, rfl, by simp, ?_, ?_, (hb.alloc hB _).grown hg (by simp; omega) (fun k hk => by cases hk; exact Nat.le_refl _)⟩
  · rw [Lib.byteCells_append, List.length_append]
    rw [← hn] at hown
    exact hown
  · show (false, xs ++ [c]) = _
    rw [take_at s k hk, pas_snoc, ← hxs.out, hp]

set_option maxHeartbeats 1600000 in
set_option maxRecDepth 100000 in
theorem pascal_any (s : ByteArray) (w : World) (hs : s.size ≤ 2097152) :
    Calls Try.prog 11 #[.string s] w fun e w' => e = .returned (.string ⟨(pas s.data.toList).2.toArray⟩) ∧ Below w.heap.size w w' := by
  obtain ⟨i0, hi, hz0, hz1, hz2⟩ := info_parts info5
  go_enter Try.func11, Try.ntmps11
  go_wp2_with (at_make; refine wpList_make_own _ rfl _ _ 26 rfl w.heap.size 5 i0 (.int .u8 0) 1 Try.underlying26 hi hz0 hz1 _ _ _ s.size rfl rfl (by omega) ?b2 ?b3 (Nat.le_refl _) ?_)
  case b2 => rw [hz2]; omega
  case b3 => unfold maxLen; omega
  intro w0 hown0 hgrow0
  go_wp2
  go_loopw [3, 4, 5] (fun out up i wr => ∃ (k : Nat) (u : Bool) (xs : List UInt8), k ≤ s.size ∧ i = .int .i64 k ∧ up = .bool u ∧ out = .slice (some ⟨w.heap.size, 0, none⟩) xs.length s.size ∧
      wr.ownsRow w.heap.size 5 1 (.slice (some ⟨w.heap.size, 0, none⟩) xs.length s.size) xs.length (Lib.byteCells xs) ∧ Hid ((u, xs) = pas (s.data.toList.take k)) ∧ Below w.heap.size w wr)
    (fun _ _ i _ => s.size - (intOf i).toNat)
  case atStart => exact ⟨0, true, [], Nat.zero_le _, rfl, rfl, rfl, hown0, by simp [pas, Hid], (Below.refl _ _).grown hgrow0 (Nat.le_refl _) (fun k h => by cases h)⟩
  case round =>
    obtain ⟨k, u, xs, hk, rfl, rfl, rfl, hown, hxs, hbel⟩ := hrel
    have hroom := pas_room s k u xs hxs.out
    have hwr := hbel.size
    by_cases hlt : k < s.size
    · cases h95 : ((s[k].toNat : Int) == 95) with
      | true =>
        have HC : Hid (s[k] = 95) := is95 _ h95
        go_wp2
        go_roundw
        case rel =>
          refine ⟨k + 1, true, xs, by omega, by go_num, rfl, rfl, hown, ?_, hbel⟩
          show (true, xs) = _
          rw [take_at s k hlt, pas_snoc, ← hxs.out]
          simp [pst, HC.out]
        case measure => simp [intOf]; omega
      | false =>
        have HC : Hid (s[k] ≠ 95) := not95 _ h95
        have hfit : xs.length + 1 ≤ s.size := by omega
        rcases (show (u = true ∧ 97 ≤ (s[k].toNat : Int) ∧ (s[k].toNat : Int) ≤ 122) ∨ (u = true ∧ (s[k].toNat : Int) < 97) ∨ (u = true ∧ 122 < (s[k].toNat : Int)) ∨ u = false from by cases u <;> simp; omega) with ⟨rfl, k1, k2⟩ | ⟨rfl, k1⟩ | ⟨rfl, k1⟩ | rfl
        · go_wp2_with (at_builtin; refine wpList_append_fits _ rfl (.tmp 32) (.tmp 34) 26 rfl w.heap.size 5 i0 1 Try.underlying26 hi hz1 w.heap.size xs.length s.size _ rfl (hown.alloc _) ⟨wr.heap.size, 0, none⟩ 1 1 [.int .u8 ((s[k].toNat : Int) - 32)] rfl rfl (one_new _ _ _) (one_cell _) hfit ?_)
          intro w2 hown2 hgrow2
          go_wp2
          go_roundw
          case rel => exact rel_pas hlt hxs (c := s[k] - 32) (by simp only [pst]; rw [if_neg HC.out, if_pos ⟨trivial, by omega, by omega⟩]) hown2 hbel hgrow2 hwr (int_up _ k1)
          case measure => simp [intOf]; omega
        all_goals
          go_wp2_with (at_builtin; refine wpList_append_fits _ rfl (.tmp 32) (.tmp 34) 26 rfl w.heap.size 5 i0 1 Try.underlying26 hi hz1 w.heap.size xs.length s.size _ rfl (hown.alloc _) ⟨wr.heap.size, 0, none⟩ 1 1 [.int .u8 (s[k].toNat : Int)] rfl rfl (one_new _ _ _) (one_cell _) hfit ?_)
          intro w2 hown2 hgrow2
          go_wp2
          go_roundw
          case rel => exact rel_pas hlt hxs (c := s[k]) (by simp only [pst]; rw [if_neg HC.out, if_neg (by simp; try omega)]) hown2 hbel hgrow2 hwr rfl
          case measure => simp [intOf]; omega
    · obtain rfl : k = s.size := by omega
      have hcv := conv_own wr w.heap.size w.heap.size s.size xs xs.length rfl hown
      go_wp2
      go_ret
      have he : xs = (pas s.data.toList).2 := by
        have := hxs.out
        rw [List.take_of_length_le (by simp)] at this
        rw [← this]
      rw [he]
      exact ⟨rfl, hbel⟩
end Go.Proofs.Qxb6604008a
