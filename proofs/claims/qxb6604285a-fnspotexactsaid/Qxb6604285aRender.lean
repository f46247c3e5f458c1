/-
  The walk of zzRender (9): the address text.
-/
import Derived.Test.Qxb6604285aItoa
import Derived.Laws.BitsAllLaws
namespace Go.Proofs.Qxb6604285a
open Go.RowKit Plain

theorem and255 (a : Int) (h0 : 0 ≤ a) (h1 : a < 4294967296) : bits .and .u32 a 255 = a % 256 := by
  rw [u32_and a 255 h0 h1 (by omega) (by omega)]
  have : a.toNat &&& 255 = a.toNat % 256 := Nat.and_two_pow_sub_one_eq_mod a.toNat 8
  rw [show (255 : Int).toNat = 255 from rfl, this]
  omega
theorem data_add (a b : ByteArray) : (a ++ b).data.toList = a.data.toList ++ b.data.toList := by simp
theorem size_add (a b : ByteArray) : (a ++ b).size = a.size + b.size := by simp

set_option maxHeartbeats 2000000 in
set_option maxRecDepth 100000 in
theorem render_any (v : Nat) (hv : v < 4294967296) (w : World) (V : Int) (hV : V = (v : Int)) :
    Calls Try.prog 9 #[.int .u32 V] w fun e w' => (∃ R, e = .returned (.string R) ∧ R.data.toList = rend v) ∧ Below w.heap.size w w' := by
  have v0 : 0 ≤ V := by omega
  have v1 : V < 4294967296 := by omega
  have hb1 := and255 (V / 256) (by omega) (by omega)
  have hb2 := and255 V v0 v1
  obtain ⟨B, hB⟩ : ∃ B : Int, B = V / 256 % 256 := ⟨_, rfl⟩
  obtain ⟨C, hC⟩ : ∃ C : Int, C = V % 256 := ⟨_, rfl⟩
  rw [← hB] at hb1
  rw [← hC] at hb2
  have c1 := fun W => itoa_any (v / 65536) (by omega) W (V / 65536) (by omega)
  have c2 := fun W => itoa_any (v / 256 % 256) (by omega) W B (by omega)
  have c3 := fun W => itoa_any (v % 256) (by omega) W C (by omega)
  obtain ⟨s1, e1⟩ : ∃ s : ByteArray, s = ⟨(itoa (v / 65536)).toArray⟩ := ⟨_, rfl⟩
  obtain ⟨s2, e2⟩ : ∃ s : ByteArray, s = ⟨(itoa (v / 256 % 256)).toArray⟩ := ⟨_, rfl⟩
  obtain ⟨s3, e3⟩ : ∃ s : ByteArray, s = ⟨(itoa (v % 256)).toArray⟩ := ⟨_, rfl⟩
  rw [← e1] at c1
  rw [← e2] at c2
  rw [← e3] at c3
  have d1 : Hid (s1.data.toList = itoa (v / 65536)) := by show _ = _; rw [e1]
  have d2 : Hid (s2.data.toList = itoa (v / 256 % 256)) := by show _ = _; rw [e2]
  have d3 : Hid (s3.data.toList = itoa (v % 256)) := by show _ = _; rw [e3]
  have z1 : s1.size ≤ 10 := by rw [Lib.size_eq, d1.out]; exact itoa_len _
  have z2 : s2.size ≤ 10 := by rw [Lib.size_eq, d2.out]; exact itoa_len _
  have z3 : s3.size ≤ 10 := by rw [Lib.size_eq, d3.out]; exact itoa_len _
  clear e1 e2 e3 hV hB hC
  go_enter Try.func9, Try.ntmps9
  go_wp2_with (go_at_call 15; refine (c1 _).mono ?_)
  rintro e w1 ⟨rfl, hw1⟩
  try intro hw1
  go_wp2_with (go_at_call 15; refine (c2 _).mono ?_)
  rintro e w2 ⟨rfl, hw2⟩
  try intro hw2
  go_wp2_with (go_at_call 15; refine (c3 _).mono ?_)
  rintro e w3 ⟨rfl, hw3⟩
  try intro hw3
  have ht : Below w.heap.size w w3 := hw1.trans ((hw2.trans (hw3.mono hw2.size)).mono hw1.size)
  go_wp2
  go_ret
  refine ⟨⟨_, rfl, ?_⟩, ht⟩
  simp only [data_add, d1.out, d2.out, d3.out, rend]
end Go.Proofs.Qxb6604285a
