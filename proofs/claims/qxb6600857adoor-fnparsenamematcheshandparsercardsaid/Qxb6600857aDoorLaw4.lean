/-
  The walk of FnParseNameMatchesHandParser (4): true, whatever the input.
-/
import Derived.Test.Qxb6600857aDoorModel
namespace Go.Proofs.Qxb6600857aDoor
open Go.RowKit Plain

set_option maxHeartbeats 2000000 in
set_option maxRecDepth 100000 in
theorem law4 (s p : ByteArray) (w : World) (hs0 : s.size ≤ 9223372036854775807) (hp0 : p.size ≤ 9223372036854775807) (h0 : IsErr w 0) (h1 : IsErr w 1) :
    Calls Tryd.prog 4 #[.string s, .string p] w fun e w' => e = .returned (.bool true) ∧ Below w.heap.size w w' := by
  by_cases hs : s.size ≤ 1048576
  · by_cases hp : p.size ≤ 1048576
    · by_cases hsum : s.size + p.size ≤ 1048576
      · have hZ := zzParseName_any s p hs w h0 h1
        have hM := fun W => model_any s p W hs hp
        generalize pn s.data.toList p.data.toList = r at hZ hM
        obtain ⟨z, ok⟩ := r
        go_enter Tryd.func4, Tryd.ntmps4
        go_wp2_with (first | (go_at_call 9; go_in) | (go_at_call 8; refine hZ.mono ?_))
        rintro e w1 ⟨rfl, hb1⟩
        try intro hb1
        go_wp2_with (go_at_call 10; refine (hM _).mono ?_; rintro e w2 ⟨rfl, rfl⟩)
        go_ret
        exact ⟨by simp, hb1⟩
      · clear h0 h1
        go_enter Tryd.func4, Tryd.ntmps4
        go_wp2
        go_ret
        exact ⟨rfl, Below.refl _ _⟩
    · clear h0 h1
      go_enter Tryd.func4, Tryd.ntmps4
      go_wp2
      go_ret
      exact ⟨rfl, Below.refl _ _⟩
  · clear h0 h1
    go_enter Tryd.func4, Tryd.ntmps4
    go_wp2
    go_ret
    exact ⟨rfl, Below.refl _ _⟩
end Go.Proofs.Qxb6600857aDoor
