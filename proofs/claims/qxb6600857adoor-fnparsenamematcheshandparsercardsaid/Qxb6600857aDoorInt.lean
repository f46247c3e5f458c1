/-
  The walks of internal/strconv.ParseInt (18) at base 16, 64 bits, of a string of sixteen bytes; of strconv.toError (19) and strconv.ParseInt (16).
-/
import Derived.Test.Qxb6600857aDoorUint
import Derived.Test.Qxb6600857aDoorShelf
import Derived.Lib.IfaceEq
import Derived.Lib.IfaceNeq
import Derived.Lib.AtoiErrMem
namespace Go.Proofs.Qxb6600857aDoor
open Go.RowKit Plain

theorem getD_at (s : ByteArray) (k : Nat) (h : k < s.size) : s.data.toList.getD k 0 = s[k] := by
  have h' : k < s.data.toList.length := by simpa using h
  simp only [List.getD, List.getElem?_eq_getElem h', Option.getD_some]
  rfl
theorem comp42 : (Tryd.prog.info? 42).map (·.comparable) = some true := by kernel_rfl
theorem neq21 (W : World) : (binOp .neq 38 (.iface 42 (.int .i64 2)) (.iface 42 (.int .i64 1))).run Tryd.prog W = .ok (.bool true) W := Lib.run_neq_iface_int W 2 1 Tryd.underlying38 comp42 Tryd.underlying42
theorem eql12 (W : World) : (binOp .eql 38 (.iface 42 (.int .i64 1)) (.iface 42 (.int .i64 2))).run Tryd.prog W = .ok (.bool false) W := Lib.run_eql_iface_int W 1 2 Tryd.underlying38 comp42 Tryd.underlying42
theorem eql11 (W : World) : (binOp .eql 38 (.iface 42 (.int .i64 1)) (.iface 42 (.int .i64 1))).run Tryd.prog W = .ok (.bool true) W := Lib.run_eql_iface_int W 1 1 Tryd.underlying38 comp42 Tryd.underlying42
theorem eql22 (W : World) : (binOp .eql 38 (.iface 42 (.int .i64 2)) (.iface 42 (.int .i64 2))).run Tryd.prog W = .ok (.bool true) W := Lib.run_eql_iface_int W 2 2 Tryd.underlying38 comp42 Tryd.underlying42

/-- What the inner ParseInt hands back: the number, and nil or one of the inner package's errors 1 (range), 2 (bad form). -/
def IntEnd (r : Int × Bool) (e : Ending) : Prop :=
  ∃ ev, e = .returned (.tuple #[.int .i64 r.1, ev]) ∧ ((r.2 = true ∧ ev = .nilIface) ∨ (r.2 = false ∧ (ev = .iface 42 (.int .i64 1) ∨ ev = .iface 42 (.int .i64 2))))
theorem IntEnd.ok {z : Int} {e : Ending} (h : e = .returned (.tuple #[.int .i64 z, .nilIface])) : IntEnd (z, true) e := ⟨_, h, .inl ⟨rfl, rfl⟩⟩
theorem IntEnd.bad {e : Ending} (h : e = .returned (.tuple #[.int .i64 0, .iface 42 (.int .i64 2)])) : IntEnd (0, false) e := ⟨_, h, .inr ⟨rfl, .inr rfl⟩⟩
theorem IntEnd.far {z : Int} {e : Ending} (h : e = .returned (.tuple #[.int .i64 z, .iface 42 (.int .i64 1)])) : IntEnd (z, false) e := ⟨_, h, .inr ⟨rfl, .inl rfl⟩⟩

set_option maxHeartbeats 4000000 in
set_option maxRecDepth 100000 in
theorem parseIntIn_any (s : ByteArray) (hs : s.size = 16) (w : World) :
    Calls Tryd.prog 18 #[.string s, .int .i64 16, .int .i64 64] w fun e w' => IntEnd (parse16 s.data.toList) e ∧ Below w.heap.size w w' := by
  have hemp : s.toList.isEmpty = false := by
    rw [← decide_eq_emptyBytes]
    exact decide_eq_false (fun h => by rw [h] at hs; cases hs)
  have hpos : 0 < s.size := by omega
  obtain ⟨c0, r, hL⟩ : ∃ c0 r, s.data.toList = c0 :: r := by
    cases h : s.data.toList with
    | nil => exact absurd (by rw [Lib.size_eq, h]; rfl : s.size = 0) (by omega)
    | cons c0 r => exact ⟨c0, r, rfl⟩
  have hsz : s.size = r.length + 1 := by rw [Lib.size_eq, hL]; rfl
  have hs0 : s[0]'hpos = c0 := by have := getD_at s 0 hpos; rw [hL] at this; exact this.symm
  have hq2 := neq21
  have hsl : ∀ W, (Instr.slice 9 (.string s) (some (.int .i64 1)) none none).run Tryd.prog W = .ok (.string (s.extract 1 s.size)) W := fun W => by
    rw [run_slice_string_from_if W 9 s .i64 _ Tryd.underlying9, if_pos ⟨by omega, by omega⟩]
    rfl
  have htl : (s.extract 1 s.size).data.toList = r := by
    rw [Lib.extract_data, hL, List.drop_succ_cons, List.drop_zero, List.take_of_length_le (by omega)]
  have hts : (s.extract 1 s.size).size = 15 := by rw [Lib.size_eq, htl]; omega
  rw [hL]
  by_cases h43 : c0 = 43
  · subst h43
    generalize s.extract 1 s.size = t at hsl htl hts
    have hU := parseUint_any t (by omega) (by omega) w
    rw [htl] at hU
    have hbel := Lib.bytesWorld_below w 5 t
    generalize Lib.bytesWorld w 5 t = w1 at hU hbel
    show Calls _ _ _ _ fun e w' => IntEnd (sgn false (hx 0 r)) e ∧ _
    have hrl : r.length = 15 := by omega
    clear hL hsz htl hts hs
    cases hE : hx 0 r with
    | none =>
      rw [hE] at hU
      have hU : Calls Tryd.prog 21 #[.string t, .int .i64 16, .int .i64 64] w fun e w' => e = .returned (.tuple #[.int .u64 0, .iface 42 (.int .i64 2)]) ∧ w' = w1 := hU
      clear hE
      go_enter Tryd.func18, Tryd.ntmps18
      go_wp2_with (go_at_call 21; refine hU.mono ?_; rintro e w1 ⟨rfl, rfl⟩)
      go_ret2
      exact ⟨.bad rfl, hbel⟩
    | some u =>
      have hu := hx_bound r u hE
      rw [hrl] at hu
      rw [hE] at hU
      obtain ⟨a, ha⟩ : ∃ a : Int, a = (u : Int) := ⟨_, rfl⟩
      have hU : Calls Tryd.prog 21 #[.string t, .int .i64 16, .int .i64 64] w fun e w' => e = .returned (.tuple #[.int .u64 a, .nilIface]) ∧ w' = w1 := by rw [ha]; exact hU
      have a0 : 0 ≤ a := by omega
      have a1 : a < 1152921504606846976 := by omega
      show Calls _ _ _ _ fun e w' => IntEnd ((u : Int), true) e ∧ _
      rw [← ha]
      clear hE hu ha
      go_enter Tryd.func18, Tryd.ntmps18
      go_wp2_with (go_at_call 21; refine hU.mono ?_; rintro e w1 ⟨rfl, rfl⟩)
      go_ret2
      exact ⟨.ok rfl, hbel⟩
  by_cases h45 : c0 = 45
  · subst h45
    generalize s.extract 1 s.size = t at hsl htl hts
    have hU := parseUint_any t (by omega) (by omega) w
    rw [htl] at hU
    have hbel := Lib.bytesWorld_below w 5 t
    generalize Lib.bytesWorld w 5 t = w1 at hU hbel
    show Calls _ _ _ _ fun e w' => IntEnd (sgn true (hx 0 r)) e ∧ _
    have hrl : r.length = 15 := by omega
    clear hL hsz htl hts hs
    cases hE : hx 0 r with
    | none =>
      rw [hE] at hU
      have hU : Calls Tryd.prog 21 #[.string t, .int .i64 16, .int .i64 64] w fun e w' => e = .returned (.tuple #[.int .u64 0, .iface 42 (.int .i64 2)]) ∧ w' = w1 := hU
      clear hE
      go_enter Tryd.func18, Tryd.ntmps18
      go_wp2_with (go_at_call 21; refine hU.mono ?_; rintro e w1 ⟨rfl, rfl⟩)
      go_ret2
      exact ⟨.bad rfl, hbel⟩
    | some u =>
      have hu := hx_bound r u hE
      rw [hrl] at hu
      rw [hE] at hU
      obtain ⟨a, ha⟩ : ∃ a : Int, a = (u : Int) := ⟨_, rfl⟩
      have hU : Calls Tryd.prog 21 #[.string t, .int .i64 16, .int .i64 64] w fun e w' => e = .returned (.tuple #[.int .u64 a, .nilIface]) ∧ w' = w1 := by rw [ha]; exact hU
      have a0 : 0 ≤ a := by omega
      have a1 : a < 1152921504606846976 := by omega
      show Calls _ _ _ _ fun e w' => IntEnd (-(u : Int), true) e ∧ _
      rw [← ha]
      clear hE hu ha
      go_enter Tryd.func18, Tryd.ntmps18
      go_wp2_with (go_at_call 21; refine hU.mono ?_; rintro e w1 ⟨rfl, rfl⟩)
      go_ret2
      exact ⟨.ok rfl, hbel⟩
  · have hU := parseUint_any s (by omega) (by omega) w
    rw [hL] at hU
    have hbel := Lib.bytesWorld_below w 5 s
    generalize Lib.bytesWorld w 5 s = w1 at hU hbel
    have hp : parse16 (c0 :: r) = uns (hx 0 (c0 :: r)) := by simp only [parse16]; rw [if_neg h43, if_neg h45]
    rw [hp]
    have n43 : ((c0.toNat : Int) == 43) = false := by rw [beq_eq_false_iff_ne]; intro h; exact h43 (UInt8.toNat_inj.1 (by have : (43 : UInt8).toNat = 43 := rfl; omega))
    have n45 : ((c0.toNat : Int) == 45) = false := by rw [beq_eq_false_iff_ne]; intro h; exact h45 (UInt8.toNat_inj.1 (by have : (45 : UInt8).toNat = 45 := rfl; omega))
    have hrl : (c0 :: r).length = 16 := by simp; omega
    clear hL hsz htl hts hsl hp
    cases hE : hx 0 (c0 :: r) with
    | none =>
      rw [hE] at hU
      have hU : Calls Tryd.prog 21 #[.string s, .int .i64 16, .int .i64 64] w fun e w' => e = .returned (.tuple #[.int .u64 0, .iface 42 (.int .i64 2)]) ∧ w' = w1 := hU
      clear hE
      go_enter Tryd.func18, Tryd.ntmps18
      go_wp2_with (go_at_call 21; refine hU.mono ?_; rintro e w1 ⟨rfl, rfl⟩)
      go_ret2
      exact ⟨.bad rfl, hbel⟩
    | some u =>
      have hu := hx_bound _ u hE
      rw [hrl] at hu
      rw [hE] at hU
      obtain ⟨a, ha⟩ : ∃ a : Int, a = (u : Int) := ⟨_, rfl⟩
      have hU : Calls Tryd.prog 21 #[.string s, .int .i64 16, .int .i64 64] w fun e w' => e = .returned (.tuple #[.int .u64 a, .nilIface]) ∧ w' = w1 := by rw [ha]; exact hU
      have a0 : 0 ≤ a := by omega
      have a1 : a ≤ 18446744073709551615 := by omega
      by_cases hout : u < 9223372036854775808
      · have hr : uns (some u) = (a, true) := by simp only [uns]; rw [if_pos hout, ha]
        rw [hr]
        have iin : a < 9223372036854775808 := by omega
        clear hE hu ha hout hr hrl
        go_enter Tryd.func18, Tryd.ntmps18
        go_wp2_with (go_at_call 21; refine hU.mono ?_; rintro e w1 ⟨rfl, rfl⟩)
        go_ret2
        exact ⟨.ok rfl, hbel⟩
      · have hr : uns (some u) = (9223372036854775807, false) := by simp only [uns]; rw [if_neg hout]
        rw [hr]
        have iout : 9223372036854775808 ≤ a := by omega
        clear hE hu ha hout hr hrl
        go_enter Tryd.func18, Tryd.ntmps18
        go_wp2_with (go_at_call 21; refine hU.mono ?_; rintro e w1 ⟨rfl, rfl⟩)
        go_ret2
        exact ⟨.far rfl, hbel⟩
end Go.Proofs.Qxb6600857aDoor
