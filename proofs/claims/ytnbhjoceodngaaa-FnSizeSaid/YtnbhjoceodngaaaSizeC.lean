/-
  What the package's frame header answers through the thin package: a frame's size and its rate. Conditions: the word is one of MPEG 1, layer 3, its bitrate's number at most 14, its rate's number at most 2.
-/
import Derived.Test.YtnbhjoceodngaaaSizeA
import Derived.Deep.RegionWith
namespace Go.Proofs.Ytnbhjoceodngaaa.fnSize
open Go.ChangeShapes Go.WideShapes Go.ChangeAt Go.RowKit

/-- A word of MPEG 1, layer 3, with its bitrate's, its rate's and its padding's numbers. -/
structure Wd (h b r p : Nat) : Prop where
  hh : h < 4294967296
  hv : h / 524288 % 4 = 3
  hl : h / 131072 % 4 = 1
  hb : h / 4096 % 16 = b
  hr : h / 1024 % 4 = r
  hp : h / 512 % 2 = p
  b2 : b ≤ 14
  r2 : r ≤ 2
theorem f7_any (h b r p : Nat) (H : Wd h b r p) (w : World) :
    Calls Try.prog 7 #[.int .u32 h] w fun e w' => e = .returned (.tuple #[.int .i64 (hz r : Nat), .bool true]) ∧ Below w.heap.size w w' := by
  have C11 := Lib.hid (f11_any h r H.hh H.hv H.hr H.r2)
  clear H
  go_enter Try.func7, Try.ntmps7
  go_wp2_with (first | (go_at_call 11; refine (C11.out _).mono ?_; rintro e w' ⟨rfl, rfl⟩))
  go_quiet (fail)
  go_wp2
  go_ret2
  exact ⟨by simp, below_drewN (Below.refl _ _) _⟩
set_option maxHeartbeats 2000000 in
theorem f10_any (h b r p : Nat) (H : Wd h b r p) (w : World) :
    Calls Try.prog 10 #[.int .u32 h] w fun e w' => e = .returned (.tuple #[.int .i64 (144 * (1000 * kbit b) / hz r + p : Nat), .nilIface]) ∧ Below w.heap.size w w' := by
  have C11 := Lib.hid (f11_any h r H.hh H.hv H.hr H.r2)
  have C13 := Lib.hid (f13_any h b H.hh H.hv H.hl H.hb H.b2)
  have C14 := Lib.hid (f14_any h p H.hh H.hp)
  have C15 := Lib.hid (f15_any h H.hh H.hv)
  have p2 : p ≤ 1 := by have := H.hp; omega
  have hk : kbit b ≤ 320 := by
    have : ∀ b : Fin 15, kbit b.val ≤ 320 := by decide
    exact this ⟨b, by have := H.b2; omega⟩
  have hh1 : 32000 ≤ hz r ∧ hz r ≤ 48000 := by unfold hz; split <;> (try split) <;> omega
  obtain ⟨hh1, hh2⟩ := hh1
  generalize kbit b = x at *
  generalize hz r = y at *
  clear H
  have e1 : IntKind.i64.wrap (144 * (1000 * (x : Int))) = 144 * (1000 * (x : Int)) := IntWalk.i64_in _ (by omega)
  have hy2 : ¬ (y : Int) = 0 := by omega
  have hq : (144 * (1000 * (x : Int))).tdiv (y : Int) = 144 * (1000 * (x : Int)) / (y : Int) := Int.tdiv_eq_ediv_of_nonneg (by omega)
  have e3 : IntKind.i64.wrap (144 * (1000 * (x : Int)) / (y : Int)) = 144 * (1000 * (x : Int)) / (y : Int) := by
    have h0 : 0 ≤ 144 * (1000 * (x : Int)) / (y : Int) := Int.ediv_nonneg (by omega) (by omega)
    have h1 : 144 * (1000 * (x : Int)) / (y : Int) ≤ 144 * (1000 * (x : Int)) := Int.ediv_le_self _ (by omega)
    exact IntWalk.i64_in _ (by omega)
  have e2 : IntKind.i64.wrap (144 * (1000 * (x : Int)) / (y : Int) + (p : Int)) = 144 * (1000 * (x : Int)) / (y : Int) + (p : Int) := by
    have h0 : 0 ≤ 144 * (1000 * (x : Int)) / (y : Int) := Int.ediv_nonneg (by omega) (by omega)
    have h1 : 144 * (1000 * (x : Int)) / (y : Int) ≤ 144 * (1000 * (x : Int)) := Int.ediv_le_self _ (by omega)
    exact IntWalk.i64_in _ (by omega)
  go_enter Try.func10, Try.ntmps10
  go_wp2_with (first | (go_at_call 11; refine (C11.out _).mono ?_; rintro e w' ⟨rfl, rfl⟩))
  go_region_with (first
    | (go_at_call 13; refine (C13.out _).mono ?_; rintro e w1 ⟨rfl, hb⟩)
    | (go_at_call 14; refine (C14.out _).mono ?_; rintro e w' ⟨rfl, rfl⟩)
    | (go_at_call 15; refine (C15.out _).mono ?_; rintro e w' ⟨rfl, rfl⟩))
  all_goals
    go_wp2
    go_ret2
    exact ⟨by simp, (Below.refl _ _).drew.trans (hb.mono (by simp))⟩
theorem f5_any (h b r p : Nat) (H : Wd h b r p) (w : World) :
    Calls Try.prog 5 #[.int .u32 h] w fun e w' => e = .returned (.tuple #[.int .i64 (144 * (1000 * kbit b) / hz r + p : Nat), .bool true]) ∧ Below w.heap.size w w' := by
  have C10 := Lib.hid (f10_any h b r p H)
  clear H
  generalize 144 * (1000 * kbit b) / hz r + p = x at *
  go_enter Try.func5, Try.ntmps5
  go_wp2_with (first | (go_at_call 10; refine (C10.out _).mono ?_; rintro e w1 ⟨rfl, hb⟩))
  go_quiet (fail)
  go_wp2
  go_ret2
  exact ⟨by simp, below_drewN hb _⟩
end Go.Proofs.Ytnbhjoceodngaaa.fnSize
