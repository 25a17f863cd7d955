/-
  The law FnSize, called with whatever number of 32 bits, returns true and leaves all that was in memory as it was. No conditions.
-/
import Derived.Test.YtnbhjoceodngaaaSizeB
import Derived.Test.YtnbhjoceodngaaaSizeC
namespace Go.Proofs.Ytnbhjoceodngaaa.fnSize
open Go.ChangeShapes Go.WideShapes Go.ChangeAt Go.RowKit

theorem wd_wd (b r p m j v k : Nat) (H : Hd b r p m j v k) : Wd (wd b r p m j v k) b r p := by
  obtain ⟨b1, b2, r2, p2, m2, j2, v2, k2⟩ := H
  unfold wd
  constructor <;> omega
def Done (w : World) (e : Ending) (w' : World) : Prop := e = .returned (.bool true) ∧ Below w.heap.size w w'
set_option maxHeartbeats 2000000 in
theorem f3_any (h : Nat) (hh : h < 4294967296) (w : World) : Calls Try.prog 3 #[.int .u32 h] w (Done w) := by
  have C4 := Lib.hid (f4_any h hh)
  go_enter Try.func3, Try.ntmps3
  go_wp2_with fail
  refine (C4.out _).mono ?_
  rintro e w1 ⟨b, r, p, m, j, v, k, H, rfl, hb1⟩
  obtain ⟨hc1, hf1⟩ := bcell hb1
  have C5 := Lib.hid (f5_any _ b r p (wd_wd b r p m j v k H))
  have C7 := Lib.hid (f7_any _ b r p (wd_wd b r p m j v k H))
  have C6 := Lib.hid (f6_any b r p m j v k H)
  have C8 := Lib.hid (f8_any b r p m j v k H)
  have C9 := Lib.hid (f9_any b r p m j v k H)
  have hsize : 144 * (1000 * kbit b) / hz r + p = sz b r p := rfl
  rw [hsize] at C5
  clear hsize H C4
  generalize wd b r p m j v k = word at *
  generalize sz b r p = size at *
  generalize hz r = rate at *
  unfold hdv at *
  go_wp2_with fail
  refine (C6.out _).mono ?_
  rintro e w2 ⟨rfl, hb2⟩
  obtain ⟨hc2, hf2⟩ := bcell hb2
  have hz2 : w1.heap.size < w2.heap.size := by have := hb2.size; simp at this; omega
  go_wp2_with fail
  refine (C5.out _).mono ?_
  rintro e w3 ⟨rfl, hb3⟩
  obtain ⟨hc3, hf3⟩ := bcell hb3
  have hz3 : w1.heap.size < w3.heap.size := by have := hb3.size; omega
  go_wp2_with fail
  refine (C6.out _).mono ?_
  rintro e w4 ⟨rfl, hb4⟩
  obtain ⟨hc4, hf4⟩ := bcell hb4
  have hz4 : w1.heap.size < w4.heap.size := by have := hb4.size; omega
  go_wp2_with fail
  refine (C7.out _).mono ?_
  rintro e w5 ⟨rfl, hb5⟩
  obtain ⟨hc5, hf5⟩ := bcell hb5
  have hz5 : w1.heap.size < w5.heap.size := by have := hb5.size; omega
  go_wp2_with fail
  refine (C8.out _).mono ?_
  rintro e w6 ⟨rfl, hb6⟩
  obtain ⟨hc6, hf6⟩ := bcell hb6
  have hz6 : w1.heap.size < w6.heap.size := by have := hb6.size; omega
  go_wp2_with fail
  refine (C9.out _).mono ?_
  rintro e w7 ⟨rfl, hb7⟩
  go_wp2_with fail
  go_ret
  exact ⟨by simp, (hb1.alloc hb1.size _).trans ((hb2.mono (by simp; exact Nat.le_succ_of_le hb1.size)).trans ((hb3.mono (by have := hb1.size; omega)).trans ((hb4.mono (by have := hb1.size; omega)).trans ((hb5.mono (by have := hb1.size; omega)).trans ((hb6.mono (by have := hb1.size; omega)).trans (hb7.mono (by have := hb1.size; omega)))))))⟩
end Go.Proofs.Ytnbhjoceodngaaa.fnSize
