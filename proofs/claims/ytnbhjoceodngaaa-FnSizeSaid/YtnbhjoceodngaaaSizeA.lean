/-
  What the package's frame header answers at a header word of MPEG 1, layer 3: its rate and its bitrate are those of the tables. Conditions: the word is below 2^32, its version is 3, its layer 1, its bitrate's number at most 14, its rate's number at most 2.
-/
import Derived.Test.YtnbhjoceodngaaaRows
import Derived.WalkKit
import Derived.ProofKit
import Derived.OpenShut
import Derived.Lib.Hide
import Derived.Deep.QuietTactic
import Derived.BigQuiet
import Derived.Great.BuildSlice
import Derived.Deep.WholeRow
namespace Go.Proofs.Ytnbhjoceodngaaa.fnSize
open Go.ChangeShapes Go.WideShapes Go.ChangeAt Go.RowKit

theorem and_field (h i j : Nat) : h &&& (2 ^ i * (2 ^ j - 1)) = 2 ^ i * (h / 2 ^ i % 2 ^ j) := by
  apply Nat.eq_of_testBit_eq
  intro k
  rw [Nat.testBit_and, Nat.testBit_two_pow_mul, Nat.testBit_two_pow_mul, Nat.testBit_two_pow_sub_one, Nat.testBit_mod_two_pow, Nat.testBit_div_two_pow]
  by_cases hk : i ≤ k
  · simp only [hk, decide_true, Bool.true_and]
    rw [show k - i + i = k from by omega, Bool.and_comm]
  · simp [hk]
theorem u32_field (h i j m d : Nat) (hh : h < 4294967296) (hm : m = 2 ^ i * (2 ^ j - 1)) (hm' : m < 4294967296) (hd : h / 2 ^ i % 2 ^ j = d) :
    bits .and .u32 (h : Int) (m : Int) = ((2 ^ i * d : Nat) : Int) := by
  have hw : ∀ n : Int, 0 ≤ n → n < 2 ^ 32 → IntKind.u32.wrap n = n := by
    intro n h0 h1
    rw [IntKind.wrap_u32]; omega
  rw [(bits_nat .u32 32 (by decide) hw h m (by omega) (by omega)).1, hm, and_field, hd]

theorem f15_any (h : Nat) (hh : h < 4294967296) (hv : h / 524288 % 4 = 3) (w : World) :
    Calls Try.prog 15 #[.int .u32 h] w fun e w' => e = .returned (.int .i64 0) ∧ w = w' := by
  have hb := u32_field h 19 2 1572864 3 hh (by decide) (by decide) hv
  simp at hb
  clear hv
  go_enter Try.func15, Try.ntmps15
  go_wp2
  go_ret
  exact ⟨rfl, rfl⟩
theorem f16_any (h r : Nat) (hh : h < 4294967296) (hr : h / 1024 % 4 = r) (w : World) :
    Calls Try.prog 16 #[.int .u32 h] w fun e w' => e = .returned (.int .i64 r) ∧ w = w' := by
  have hb := u32_field h 10 2 3072 r hh (by decide) (by decide) hr
  have hr4 : r < 4 := by omega
  simp at hb
  clear hr
  go_enter Try.func16, Try.ntmps16
  go_wp2
  go_ret
  exact ⟨rfl, rfl⟩
theorem f14_any (h r : Nat) (hh : h < 4294967296) (hr : h / 512 % 2 = r) (w : World) :
    Calls Try.prog 14 #[.int .u32 h] w fun e w' => e = .returned (.int .i64 r) ∧ w = w' := by
  have hb := u32_field h 9 1 512 r hh (by decide) (by decide) hr
  have hr4 : r < 2 := by omega
  simp at hb
  clear hr
  go_enter Try.func14, Try.ntmps14
  go_wp2
  go_ret
  exact ⟨rfl, rfl⟩
theorem f18_any (h : Nat) (hh : h < 4294967296) (hr : h / 131072 % 4 = 1) (w : World) :
    Calls Try.prog 18 #[.int .u32 h] w fun e w' => e = .returned (.int .i64 1) ∧ w = w' := by
  have hb := u32_field h 17 2 393216 1 hh (by decide) (by decide) hr
  simp at hb
  clear hr
  go_enter Try.func18, Try.ntmps18
  go_wp2
  go_ret
  exact ⟨rfl, rfl⟩
theorem f19_any (h r : Nat) (hh : h < 4294967296) (hr : h / 4096 % 16 = r) (w : World) :
    Calls Try.prog 19 #[.int .u32 h] w fun e w' => e = .returned (.int .i64 r) ∧ w = w' := by
  have hb := u32_field h 12 4 61440 r hh (by decide) (by decide) hr
  have hr4 : r < 16 := by omega
  simp at hb
  clear hr
  go_enter Try.func19, Try.ntmps19
  go_wp2
  go_ret
  exact ⟨rfl, rfl⟩

def hz (r : Nat) : Nat := if r = 0 then 44100 else if r = 1 then 48000 else 32000

theorem f11_any (h r : Nat) (hh : h < 4294967296) (hv : h / 524288 % 4 = 3) (hr : h / 1024 % 4 = r) (h2 : r ≤ 2) (w : World) :
    Calls Try.prog 11 #[.int .u32 h] w fun e w' => e = .returned (.tuple #[.int .i64 (hz r : Nat), .nilIface]) ∧ w = w' := by
  have c15 := f15_any h hh hv
  have c16 := f16_any h r hh hr
  have HV := Lib.hid hv
  have HR := Lib.hid hr
  have C15 := Lib.hid c15
  have C16 := Lib.hid c16
  clear hv hr c15 c16
  have hcase : r = 0 ∨ r = 1 ∨ r = 2 := by omega
  rcases hcase with rfl | rfl | rfl
  all_goals
    go_enter Try.func11, Try.ntmps11
    go_wp2_with (first | (go_at_call 15; refine (C15.out _).mono ?_; rintro e w' ⟨rfl, rfl⟩) | (go_at_call 16; refine (C16.out _).mono ?_; rintro e w' ⟨rfl, rfl⟩))
    go_ret2
    exact ⟨rfl, rfl⟩
def kbit (b : Nat) : Nat := [0, 32, 40, 48, 56, 64, 80, 96, 112, 128, 160, 192, 224, 256, 320].getD b 0

/-- An operation whose run is known. -/
theorem wpList_run {P : Program} {ops : Array Oper} {rest : List Oper} {o : Oper} {a : Act} {w : World} {Q : Exit → Act → World → Prop} (d : Option Tmp) (v : Value) (w' : World)
    (hg : o.guard = none) (hd : o.dst = d) (hrun : (execOp a.eval o).run P w = .ok (.value v) w')
    (h : wpList P ops Q rest (a.put d v) w') : wpList P ops Q (o :: rest) a w := by
  subst hd
  refine wpList_plain hg fun K hK => ?_
  unfold Oper.wp
  rw [hrun, Oper.upon_value]
  exact hK _ _ h

/-- The numbers of the three layers of two versions, 16 each, in steps of 8000. -/
def bitNums : List Int :=
  List.map (fun x : Int => x * 8000) ([0, 4, 5, 6, 7, 8, 10, 12, 14, 16, 20, 24, 28, 32, 40, 0] ++
   [0, 4, 6, 7, 8, 10, 12, 14, 16, 20, 24, 28, 32, 40, 48, 0] ++
   [0, 4, 8, 12, 16, 20, 24, 28, 32, 36, 40, 44, 48, 52, 56, 0] ++
   [0, 1, 2, 3, 4, 5, 6, 7, 8, 10, 12, 14, 16, 18, 20, 0] ++
   [0, 1, 2, 3, 4, 5, 6, 7, 8, 10, 12, 14, 16, 18, 20, 0] ++
   [0, 4, 6, 7, 8, 10, 12, 14, 16, 18, 20, 22, 24, 28, 32, 0])
def bitCells : Array Value := (bitNums.map (Value.int .i64)).toArray
def bitZero : Array Value := Array.replicate 96 (Value.int .i64 0)
theorem quiet_eq {P : Program} {f : FuncId} {args : Array Value} {w : World} {n : Nat} {v : Value}
    (h : Calls P f args (w.drewN n) fun e w' => e = .returned v ∧ w.drewN n = w') : Calls P f args (w.drewN n) fun e w'' => e = .returned v ∧ ∃ m, w'' = w.drewN m :=
  h.mono fun _ _ ⟨he, hm⟩ => ⟨he, n, hm.symm⟩
theorem below_drewN {B : Nat} {a w : World} (h : Below B a w) (n : Nat) : Below B a (w.drewN n) := ⟨h.os, h.tape, h.output, h.size, h.block⟩
theorem bit_at (b : Nat) (h2 : b ≤ 14) : bitCells[b]? = some (.int .i64 (1000 * kbit b : Nat)) := by
  have : ∀ b : Fin 15, bitNums[b.val]? = some ((1000 * kbit b.val : Nat) : Int) := by decide
  have h := this ⟨b, by omega⟩
  simp only at h
  simp only [bitCells, List.getElem?_toArray, List.getElem?_map, h, Option.map_some]
set_option maxHeartbeats 4000000 in
theorem f13_any (h b : Nat) (hh : h < 4294967296) (hv : h / 524288 % 4 = 3) (hl : h / 131072 % 4 = 1) (hb : h / 4096 % 16 = b) (h2 : b ≤ 14) (w : World) :
    Calls Try.prog 13 #[.int .u32 h] w fun e w' => e = .returned (.int .i64 (1000 * kbit b : Nat)) ∧ Below w.heap.size w w' := by
  have C15 := Lib.hid (f15_any h hh hv)
  have C18 := Lib.hid (f18_any h hh hl)
  have C19 := Lib.hid (f19_any h b hh hb)
  clear hv hl hb
  have hz43 : ∀ w, (zeroValue 43).run Try.prog w = .ok (.agg bitZero) w := fun _ => by kernel_rfl
  go_enter Try.func13, Try.ntmps13
  go_wp2_with (first
   | (refine wpList_buildTo rfl 42 #[(0, .tmp 4), (1, .tmp 5), (2, .tmp 6)] rfl (some 7) rfl ((bitNums.take 48).map (Value.int .i64)).toArray (by kernel_rfl) ?_)
   | (refine wpList_buildTo rfl 42 #[(0, .tmp 8), (1, .tmp 9), (2, .tmp 10)] rfl (some 11) rfl ((bitNums.drop 48).map (Value.int .i64)).toArray (by kernel_rfl) ?_)
   | (refine wpList_buildTo rfl 43 #[(0, .tmp 7), (1, .tmp 11)] rfl (some 12) rfl bitCells (by kernel_rfl) ?_)
   | ((with_reducible refine wpList_store_rowTo rfl 43 (.tmp 3) (.tmp 12) rfl rfl w.heap.size bitCells rfl rfl 43 bitZero (heap_alloc_last _ _) (by kernel_rfl) (by kernel_rfl) (by kernel_rfl) ?_); rw [World.setRow_alloc_new])
   | fail)
  have hcell : (w.alloc (.cells bitCells 43)).cell? ⟨w.heap.size, b, none⟩ = some (.int .i64 (1000 * kbit b : Nat)) := by
    rw [cell_of_row _ _ b bitCells 43 (0, 0) (heap_alloc_last w _)]
    exact bit_at b h2
  have hbel : Below w.heap.size w (w.alloc (.cells bitCells 43)) := (Below.refl _ _).alloc (Nat.le_refl _) _
  generalize w.alloc (.cells bitCells 43) = W at *
  go_quiet ((first | (go_at_call 15; exact quiet_eq (C15.out _)) | (go_at_call 18; exact quiet_eq (C18.out _)) | (go_at_call 19; exact quiet_eq (C19.out _))))
  go_wp2
  go_ret
  exact ⟨by simp, below_drewN hbel _⟩
end Go.Proofs.Ytnbhjoceodngaaa.fnSize
