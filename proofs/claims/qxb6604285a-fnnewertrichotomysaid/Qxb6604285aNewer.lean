/-
  The walks of zzEqualBytes (13), newer (16) and ZZNewer (12).
-/
import Derived.Test.Qxb6604285aClone
namespace Go.Proofs.Qxb6604285a
open Go.RowKit Plain

theorem take_more {l1 l2 : List UInt8} {k : Nat} (h1 : k < l1.length) (h2 : k < l2.length) (h : l1.take k = l2.take k) (he : l1[k] = l2[k]) : l1.take (k + 1) = l2.take (k + 1) := by
  rw [List.take_succ_eq_append_getElem h1, List.take_succ_eq_append_getElem h2, h, he]
theorem byte_eq {a b : UInt8} (h : ((a.toNat : Int) != (b.toNat : Int)) = false) : a = b := by
  rw [bne_eq_false_iff_eq] at h
  exact UInt8.toNat_inj.1 (by omega)

set_option maxHeartbeats 1600000 in
set_option maxRecDepth 100000 in
theorem equal_any (v1 v2 : Value) (l1 l2 : List UInt8) (w : World) (hl : l1.length ≤ 524288) (h1 : BytesAt w v1 l1) (h2 : BytesAt w v2 l2) (b : Bool) (hb : decide (l1 = l2) = b) :
    Calls Try.prog 13 #[v1, v2] w fun e w' => e = .returned (.bool b) ∧ Below w.heap.size w w' := by
  obtain ⟨ao1, c1, rfl, h1⟩ := h1
  obtain ⟨ao2, c2, rfl, h2⟩ := h2
  by_cases hlen : l1.length = l2.length
  · rcases h1 with rfl | ⟨g1, rfl, h1⟩
    · have h2' : l2 = [] := List.eq_nil_of_length_eq_zero hlen.symm
      subst h2'
      simp at hb
      subst hb
      clear h2 hlen
      go_enter Try.func13, Try.ntmps13
      go_wp2
      refine wp_loop_rounds 1 ?_
      rw [rounds_succ]
      go_wp2
      go_ret
      exact ⟨rfl, Below.refl _ _⟩
    · rcases h2 with rfl | ⟨g2, rfl, h2⟩
      · have h1' : l1 = [] := List.eq_nil_of_length_eq_zero hlen
        subst h1'
        simp at hb
        subst hb
        clear h1 hlen
        go_enter Try.func13, Try.ntmps13
        go_wp2
        refine wp_loop_rounds 1 ?_
        rw [rounds_succ]
        go_wp2
        go_ret
        exact ⟨rfl, Below.refl _ _⟩
      · have hne : ((l1.length : Int) != (l2.length : Int)) = false := by rw [bne_eq_false_iff_eq]; omega
        have HL : Hid (l1.length = l2.length) := hlen
        have HB : Hid (decide (l1 = l2) = b) := hb
        clear hlen hb
        have H1 : Hid (∀ i (h : i < l1.length), w.cell? ⟨g1, i, none⟩ = some (.int .u8 (l1[i].toNat : Int))) := h1
        have H2 : Hid (∀ i (h : i < l2.length), w.cell? ⟨g2, i, none⟩ = some (.int .u8 (l2[i].toNat : Int))) := h2
        clear h1 h2
        go_enter Try.func13, Try.ntmps13
        go_wp2
        go_loopw [5] (fun i wr => ∃ k : Nat, k ≤ l1.length ∧ i = .int .i64 k ∧ Hid (l1.take k = l2.take k) ∧ Below w.heap.size w wr) (fun i _ => l1.length - (intOf i).toNat)
        case atStart => exact ⟨0, Nat.zero_le _, rfl, rfl, Below.refl _ _⟩
        case round =>
          obtain ⟨k, hk, rfl, hpre, hbel⟩ := hrel
          by_cases hlt : k < l1.length
          · have hlt2 : k < l2.length := by rw [← HL.out]; exact hlt
            have c1 : wr.cell? ⟨g1, k, none⟩ = some (.int .u8 (l1[k].toNat : Int)) := (hbel.cell (p := ⟨g1, k, none⟩) (Lib.lt_of_cell (H1.out k hlt))).trans (H1.out k hlt)
            have c2 : wr.cell? ⟨g2, k, none⟩ = some (.int .u8 (l2[k].toNat : Int)) := (hbel.cell (p := ⟨g2, k, none⟩) (Lib.lt_of_cell (H2.out k hlt2))).trans (H2.out k hlt2)
            cases hd : ((l1[k].toNat : Int) != (l2[k].toNat : Int)) with
            | true =>
              go_wp2
              go_region
              go_wp2
              go_ret
              have hb' : b = false := by
                rw [← HB.out]
                exact decide_eq_false (fun e => by subst e; simp at hd)
              rw [hb']
              exact ⟨rfl, hbel.drew⟩
            | false =>
              go_wp2
              go_region
              go_wp2
              go_roundw
              case rel => exact ⟨k + 1, by omega, by go_num, take_more hlt hlt2 hpre.out (byte_eq hd), hbel.drew⟩
              case measure => simp [intOf]; omega
          · obtain rfl : k = l1.length := by omega
            go_wp2
            go_ret
            have he : l1 = l2 := by have := hpre.out; rw [List.take_length, HL.out, List.take_length] at this; exact this
            have hb' := HB.out
            rw [decide_eq_true he] at hb'
            subst hb'
            exact ⟨rfl, hbel⟩
  · have hne : ((l1.length : Int) != (l2.length : Int)) = true := by rw [bne_iff_ne]; omega
    have hb' : b = false := by rw [← hb]; exact decide_eq_false (fun e => hlen (by rw [e]))
    subst hb'
    clear hlen hb h1 h2
    go_enter Try.func13, Try.ntmps13
    go_wp2
    go_ret
    exact ⟨rfl, Below.refl _ _⟩

set_option maxHeartbeats 1600000 in
set_option maxRecDepth 100000 in
theorem newer_ne (v1 v2 : Value) (l1 l2 : List UInt8) (n1 n2 : Int) (w : World) (h1 : BytesAt w v1 l1) (h2 : BytesAt w v2 l2) (h : n1 ≠ n2) (b : Bool) (hb : decide (n2 < n1) = b) :
    Calls Try.prog 12 #[v1, .int .u64 n1, v2, .int .u64 n2] w fun e w' => e = .returned (.bool b) ∧ Below w.heap.size w w' := by
  obtain ⟨ao1, c1, rfl, h1⟩ := h1
  obtain ⟨ao2, c2, rfl, h2⟩ := h2
  have hn : (n1 != n2) = true := by rw [bne_iff_ne]; exact h
  have HB : Hid (decide (n2 < n1) = b) := hb
  clear h1 h2 h hb
  go_enter Try.func12, Try.ntmps12
  go_wp2
  go_ret
  refine ⟨?_, ((Below.refl _ w).alloc (Nat.le_refl _) _).alloc (by simp) _⟩
  rw [← HB.out]
  rfl
set_option maxHeartbeats 1600000 in
set_option maxRecDepth 100000 in
theorem newer_eq (v1 v2 : Value) (l1 l2 : List UInt8) (n : Int) (w : World) (h1 : BytesAt w v1 l1) (h2 : BytesAt w v2 l2) (b : Bool) (hb : decide (0 < Lib.compareBytes l1 l2) = b) :
    Calls Try.prog 12 #[v1, .int .u64 n, v2, .int .u64 n] w fun e w' => e = .returned (.bool b) ∧ Below w.heap.size w w' := by
  have k1 := h1
  have k2 := h2
  obtain ⟨ao1, c1, rfl, h1⟩ := h1
  obtain ⟨ao2, c2, rfl, h2⟩ := h2
  have hn : (n != n) = false := by simp
  clear h1 h2
  have HB : Hid (decide (0 < Lib.compareBytes l1 l2) = b) := hb
  clear hb
  go_enter Try.func12, Try.ntmps12
  go_wp2_with (first | (go_at_call 16; go_in) | (go_at_call 19; refine (compare_any _ _ l1 l2 _ ?c1 ?c2).mono ?_))
  case c1 => exact k1.below (((Below.refl _ w).alloc (Nat.le_refl _) _).alloc (by simp) _)
  case c2 => exact k2.below (((Below.refl _ w).alloc (Nat.le_refl _) _).alloc (by simp) _)
  rintro e w' ⟨rfl, rfl⟩
  go_wp2
  go_ret
  refine ⟨?_, ((Below.refl _ w).alloc (Nat.le_refl _) _).alloc (by simp) _⟩
  rw [← HB.out]
  rfl
end Go.Proofs.Qxb6604285a
