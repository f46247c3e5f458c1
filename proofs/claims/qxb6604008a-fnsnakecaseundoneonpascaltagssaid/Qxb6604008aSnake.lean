/-
  The walks of arbora.snakeCase (12) and ZZSnakeCase (6): the snake spelling 'snk'.
-/
import Derived.Test.Qxb6604008aBuilder
namespace Go.Proofs.Qxb6604008a
open Go.RowKit Plain

/-- The relation of snakeCase's loop, one byte on. -/
theorem rel_snake {s : ByteArray} {k B : Nat} {xs : List UInt8} {n : Int} {w w1 w2 : World} (hk : k < s.size)
    (h2 : Lib.BuilderAt 30 5 B B (.pointer (some ⟨B, 0, none⟩)) (Lib.byteCells xs ++ [.int .u8 n]) w2) (hn : ((low s[k]).toNat : Int) = n)
    (hxs : snk s.data.toList (k + 1) = xs ++ [low s[k]]) (hb1 : Below B w w1) (hb2 : Below B w1 w2) :
    ∃ k' : Nat, k' ≤ s.size ∧ Value.int .i64 ((k : Int) + 1) = .int .i64 k' ∧ Lib.IsBuilder 30 5 B B (Lib.byteCells (snk s.data.toList k')) w2 ∧ Below B w w2 := by
  refine ⟨k + 1, by omega, by go_num, .inr ?_, hb1.trans hb2⟩
  rw [hxs, Lib.byteCells_append]
  rw [← hn] at h2
  exact h2

set_option maxHeartbeats 1600000 in
set_option maxRecDepth 100000 in
theorem snake_any (s : ByteArray) (w : World) (hs : s.size ≤ 1048576) :
    Calls Try.prog 12 #[.string s] w fun e w' => e = .returned (.string ⟨(snk s.data.toList s.size).toArray⟩) ∧ Below w.heap.size w w' := by
  go_enter Try.func12, Try.ntmps12
  go_wp2
  go_loopw [8] (fun i wr => ∃ k : Nat, k ≤ s.size ∧ i = .int .i64 k ∧ Lib.IsBuilder 30 5 w.heap.size w.heap.size (Lib.byteCells (snk s.data.toList k)) wr ∧ Below w.heap.size w wr) (fun i _ => s.size - (intOf i).toNat)
  case atStart => exact ⟨0, Nat.zero_le _, rfl, Lib.fresh_isBuilder 30 5 w, (Below.refl _ w).alloc (Nat.le_refl _) _⟩
  case round =>
    obtain ⟨k, hk, rfl, hI, hbw⟩ := hrel
    have hsz := hbw.size
    have hl := snk_len s.data.toList k
    by_cases hlt : k < s.size
    · rcases (show (65 ≤ (s[k].toNat : Int) ∧ (s[k].toNat : Int) ≤ 90 ∧ 0 < k) ∨ (65 ≤ (s[k].toNat : Int) ∧ (s[k].toNat : Int) ≤ 90 ∧ ¬ 0 < k) ∨ (s[k].toNat : Int) < 65 ∨ 90 < (s[k].toNat : Int) from by omega) with ⟨k1, k2, k3⟩ | ⟨k1, k2, k3⟩ | k1 | k1
      · have kc : isCap s[k] = true := (isCap_iff _).2 (by omega)
        go_wp2_with (go_at_call 14; refine (writeByte_any w.heap.size w.heap.size _ 95 _ hI (by rw [Lib.byteCells_length]; omega) hsz).mono ?_)
        rintro e w1 ⟨rfl, h1, b1⟩
        have h1' : Lib.IsBuilder 30 5 w.heap.size w.heap.size (Lib.byteCells (snk s.data.toList k ++ [95])) w1 := by rw [Lib.byteCells_append]; exact .inr h1
        have hsz1 := (hbw.trans b1).size
        clear h1 hI
        go_wp2_with (go_at_call 14; refine (writeByte_any w.heap.size w.heap.size _ ((s[k].toNat : Int) + 32) _ h1' (by rw [Lib.byteCells_length]; simp; omega) hsz1).mono ?_)
        rintro e w2 ⟨rfl, h2, b2⟩
        go_wp2
        go_roundw
        case rel => exact rel_snake hlt h2 (int_low _ kc) (snk_cap s.data.toList k s[k] (getD_at s k hlt) kc k3) (hbw.trans b1) b2
        case measure => simp [intOf]; omega
      · have kc : isCap s[k] = true := (isCap_iff _).2 (by omega)
        go_wp2_with (go_at_call 14; refine (writeByte_any w.heap.size w.heap.size _ ((s[k].toNat : Int) + 32) _ hI (by rw [Lib.byteCells_length]; omega) hsz).mono ?_)
        rintro e w1 ⟨rfl, h1, b1⟩
        go_wp2
        go_roundw
        case rel => exact rel_snake hlt h1 (int_low _ kc) (snk_no s.data.toList k s[k] (getD_at s k hlt) (.inr (by omega))) hbw b1
        case measure => simp [intOf]; omega
      all_goals
        have kc : isCap s[k] = false := isCap_no _ (by omega)
        try have kd : decide ((s[k].toNat : Int) ≤ 90) = false := by simpa using k1
        go_wp2_with (go_at_call 14; refine (writeByte_any w.heap.size w.heap.size _ (s[k].toNat : Int) _ hI (by rw [Lib.byteCells_length]; omega) hsz).mono ?_)
        rintro e w1 ⟨rfl, h1, b1⟩
        try intro h1 b1
        go_wp2
        go_roundw
        case rel => exact rel_snake hlt h1 (by rw [low_no _ kc]) (snk_no s.data.toList k s[k] (getD_at s k hlt) (.inl kc)) hbw b1
        case measure => simp [intOf]; omega
    · obtain rfl : k = s.size := by omega
      go_wp2_with (go_at_call 15; refine (Try.Builder_String_any w.heap.size w.heap.size _ _ hI hsz).mono ?_)
      rintro e w1 ⟨rfl, hb⟩
      go_wp2
      go_ret
      exact ⟨rfl, hbw.trans hb⟩

theorem zzSnake_any (s : ByteArray) (w : World) (hs : s.size ≤ 1048576) :
    Calls Try.prog 6 #[.string s] w fun e w' => e = .returned (.string ⟨(snk s.data.toList s.size).toArray⟩) ∧ Below w.heap.size w w' := by
  go_enter Try.func6, Try.ntmps6
  go_wp2_with (go_at_call 12; refine (snake_any s _ hs).mono ?_)
  rintro e w1 ⟨rfl, hb⟩
  go_wp2
  go_ret
  exact ⟨rfl, hb⟩
end Go.Proofs.Qxb6604008a
