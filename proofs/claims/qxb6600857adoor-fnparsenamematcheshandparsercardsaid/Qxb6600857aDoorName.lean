/-
  The walks of strconv.toError (19), strconv.ParseInt (16), store.parseName (13), store.ZZParseName (8).
-/
import Derived.Test.Qxb6600857aDoorInt
import Derived.RegionTactic
import Derived.WideLaws
namespace Go.Proofs.Qxb6600857aDoor
open Go.RowKit Plain

/-- strconv's two error variables (blocks 0 and 1) hold values of type error. -/
def IsErr (w : World) (g : Nat) : Prop := ∃ ev, w.cell? ⟨g, 0, none⟩ = some ev ∧ (ev = .nilIface ∨ ∃ te pe, ev = .iface te pe)
theorem IsErr.below {w w' : World} {g : Nat} (h : IsErr w g) (hb : Below w.heap.size w w') : IsErr w' g := by
  obtain ⟨ev, hv, hev⟩ := h
  exact ⟨ev, (hb.cell (show (⟨g, 0, none⟩ : Addr).block < w.heap.size from Lib.lt_of_cell hv)).trans hv, hev⟩

set_option maxHeartbeats 2000000 in
set_option maxRecDepth 100000 in
theorem toErr2 (fn s : ByteArray) (base bits : Int) (w : World) (hlim : s.size ≤ 281474976710656) (hE : IsErr w 0) :
    Calls Tryd.prog 19 #[.string fn, .string s, .int .i64 base, .int .i64 bits, .iface 42 (.int .i64 2)] w fun e w' => (∃ N, e = .returned (.iface 45 (.pointer (some ⟨N, 0, none⟩)))) ∧ Below w.heap.size w w' := by
  obtain ⟨ev, hv, hev⟩ := hE
  have hq := eql22
  go_enter Tryd.func19, Tryd.ntmps19
  go_wp2_with (go_at_call 22; refine (Tryd.strconv_syntaxError fn s ev _ hlim hv hev).mono ?_)
  rintro e w2 ⟨N, rfl, h1, h2, h3⟩
  go_wp2
  go_ret
  exact ⟨⟨N, rfl⟩, h3⟩
set_option maxHeartbeats 2000000 in
set_option maxRecDepth 100000 in
theorem toErr1 (fn s : ByteArray) (base bits : Int) (w : World) (hlim : s.size ≤ 281474976710656) (hE : IsErr w 1) :
    Calls Tryd.prog 19 #[.string fn, .string s, .int .i64 base, .int .i64 bits, .iface 42 (.int .i64 1)] w fun e w' => (∃ N, e = .returned (.iface 45 (.pointer (some ⟨N, 0, none⟩)))) ∧ Below w.heap.size w w' := by
  obtain ⟨ev, hv, hev⟩ := hE
  have hq := eql11
  have hq' := eql12
  go_enter Tryd.func19, Tryd.ntmps19
  go_wp2_with (go_at_call 23; refine (Tryd.strconv_rangeError fn s ev _ hlim hv hev).mono ?_)
  rintro e w2 ⟨N, rfl, h1, h2, h3⟩
  go_wp2
  go_ret
  exact ⟨⟨N, rfl⟩, h3⟩

/-- What the public ParseInt hands back. -/
def PubEnd (r : Int × Bool) (e : Ending) : Prop :=
  ∃ ev, e = .returned (.tuple #[.int .i64 r.1, ev]) ∧ ((r.2 = true ∧ ev = .nilIface) ∨ (r.2 = false ∧ ∃ N, ev = .iface 45 (.pointer (some ⟨N, 0, none⟩))))

set_option maxHeartbeats 2000000 in
set_option maxRecDepth 100000 in
theorem parseInt_any (s : ByteArray) (hs : s.size = 16) (w : World) (h0 : IsErr w 0) (h1 : IsErr w 1) :
    Calls Tryd.prog 16 #[.string s, .int .i64 16, .int .i64 64] w fun e w' => PubEnd (parse16 s.data.toList) e ∧ Below w.heap.size w w' := by
  have hI := parseIntIn_any s hs w
  generalize parse16 s.data.toList = r at hI ⊢
  obtain ⟨z, ok⟩ := r
  go_enter Tryd.func16, Tryd.ntmps16
  go_wp2_with (go_at_call 18; refine hI.mono ?_)
  rintro e w1 ⟨⟨ev, rfl, hev⟩, hb⟩
  have e0 := h0.below hb
  have e1 := h1.below hb
  have hlim : s.size ≤ 281474976710656 := by omega
  rcases hev with ⟨hok, rfl⟩ | ⟨hok, rfl | rfl⟩
  · go_wp2
    go_ret2
    exact ⟨⟨_, rfl, .inl ⟨hok, rfl⟩⟩, hb⟩
  · go_wp2_with (go_at_call 19; refine (toErr1 _ s _ _ _ hlim e1).mono ?_)
    rintro e w2 ⟨⟨N, rfl⟩, hb2⟩
    go_wp2
    go_ret2
    exact ⟨⟨_, rfl, .inr ⟨hok, N, rfl⟩⟩, hb.trans (hb2.mono hb.size)⟩
  · go_wp2_with (go_at_call 19; refine (toErr2 _ s _ _ _ hlim e0).mono ?_)
    rintro e w2 ⟨⟨N, rfl⟩, hb2⟩
    go_wp2
    go_ret2
    exact ⟨⟨_, rfl, .inr ⟨hok, N, rfl⟩⟩, hb.trans (hb2.mono hb.size)⟩

/-- What parseName gives. -/
def pn (name pre : List UInt8) : Int × Bool := if Lib.hasPrefix name pre = true ∧ (Lib.trimPrefix name pre).length = 16 then parse16 (Lib.trimPrefix name pre) else (0, false)

set_option maxHeartbeats 2000000 in
set_option maxRecDepth 100000 in
theorem parseName_any (s p : ByteArray) (_hs : s.size ≤ 1048576) (w : World) (h0 : IsErr w 0) (h1 : IsErr w 1) :
    Calls Tryd.prog 13 #[.string s, .string p] w fun e w' => e = .returned (.tuple #[.int .i64 (pn s.data.toList p.data.toList).1, .bool (pn s.data.toList p.data.toList).2]) ∧ Below w.heap.size w w' := by
  have hC := Tryd.strings_CutPrefix s p w
  have hle : (Lib.trimPrefix s.data.toList p.data.toList).length ≤ s.size := by have := Lib.trimPrefix_le s.data.toList p.data.toList; rw [Lib.size_eq]; exact this
  unfold pn
  generalize Lib.trimPrefix s.data.toList p.data.toList = l at hC hle ⊢
  cases hpre : Lib.hasPrefix s.data.toList p.data.toList with
  | false =>
    rw [hpre] at hC
    rw [if_neg (by simp)]
    clear hpre
    go_enter Tryd.func13, Tryd.ntmps13
    go_wp2_with (go_at_call 15; refine hC.mono ?_; rintro e w1 ⟨rfl, rfl⟩)
    go_ret2
    exact ⟨rfl, Below.refl _ _⟩
  | true =>
    rw [hpre] at hC
    have hsz : (⟨l.toArray⟩ : ByteArray).size = l.length := by simp [ByteArray.size]
    have hd : (⟨l.toArray⟩ : ByteArray).data.toList = l := by simp
    by_cases h16 : l.length = 16
    · rw [if_pos ⟨rfl, h16⟩]
      have hP := parseInt_any ⟨l.toArray⟩ (by omega) w h0 h1
      rw [hd] at hP
      generalize parse16 l = r at hP ⊢
      obtain ⟨z, ok⟩ := r
      have hszi : ((⟨l.toArray⟩ : ByteArray).size : Int) = 16 := by omega
      generalize (⟨l.toArray⟩ : ByteArray) = t at hC hP hszi
      clear hpre hle hsz hd h16
      go_enter Tryd.func13, Tryd.ntmps13
      go_wp2_with (first | (go_at_call 15; refine hC.mono ?_; rintro e w1 ⟨rfl, rfl⟩) | (go_at_call 16; refine hP.mono ?_))
      rintro e w1 ⟨⟨ev, rfl, hev⟩, hb⟩
      rcases hev with ⟨hok, rfl⟩ | ⟨hok, N, rfl⟩
      all_goals
        go_wp2
        go_region
        go_wp2
        go_ret2
        rw [hok]
        exact ⟨rfl, hb.drew⟩
    · rw [if_neg (fun h => h16 h.2)]
      have hszi : (((⟨l.toArray⟩ : ByteArray).size : Int) != 16) = true := by rw [bne_iff_ne]; omega
      generalize (⟨l.toArray⟩ : ByteArray) = t at hC hszi
      clear hpre hle hsz hd h16
      go_enter Tryd.func13, Tryd.ntmps13
      go_wp2_with (first | (go_at_call 15; refine hC.mono ?_; rintro e w1 ⟨rfl, rfl⟩))
      go_ret2
      exact ⟨rfl, Below.refl _ _⟩

theorem zzParseName_any (s p : ByteArray) (hs : s.size ≤ 1048576) (w : World) (h0 : IsErr w 0) (h1 : IsErr w 1) :
    Calls Tryd.prog 8 #[.string s, .string p] w fun e w' => e = .returned (.tuple #[.int .i64 (pn s.data.toList p.data.toList).1, .bool (pn s.data.toList p.data.toList).2]) ∧ Below w.heap.size w w' := by
  have hP := parseName_any s p hs w h0 h1
  generalize pn s.data.toList p.data.toList = r at hP ⊢
  go_enter Tryd.func8, Tryd.ntmps8
  go_wp2_with (go_at_call 13; refine hP.mono ?_)
  rintro e w1 ⟨rfl, hb⟩
  try intro hb
  go_wp2
  go_ret2
  exact ⟨rfl, hb⟩
end Go.Proofs.Qxb6600857aDoor
