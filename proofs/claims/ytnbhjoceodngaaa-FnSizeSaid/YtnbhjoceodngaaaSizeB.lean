/-
  What the law's own header functions answer: a header's fields lie in their bounds, its word is the sum of its parts, its size is 144 times its bits over its rate, and one more where that is told. Conditions: the fields lie in their bounds.
-/
import Derived.Test.YtnbhjoceodngaaaSizeA
import Derived.Deep.RegionWith
namespace Go.Proofs.Ytnbhjoceodngaaa.fnSize
open Go.ChangeShapes Go.WideShapes Go.ChangeAt Go.RowKit

/-- A header's fields in their bounds. -/
structure Hd (b r p m j v k : Nat) : Prop where
  b1 : 1 ≤ b
  b2 : b ≤ 14
  r2 : r ≤ 2
  p2 : p ≤ 1
  m2 : m ≤ 3
  j2 : j ≤ 3
  v2 : v ≤ 1
  k2 : k ≤ 15
def hdv (b r p m j v k : Nat) : Value := .agg #[.int .i64 b, .int .i64 r, .int .i64 p, .int .i64 m, .int .i64 j, .int .i64 v, .int .i64 k]

theorem u32_low (h i m : Nat) (hh : h < 4294967296) (hm : m = 2 ^ i - 1) (hm' : m < 4294967296) :
    bits .and .u32 (h : Int) (m : Int) = ((h % 2 ^ i : Nat) : Int) := by
  have := u32_field h 0 i m (h % 2 ^ i) hh (by simpa using hm) hm' (by simp)
  simpa using this
def HeadPost (w : World) (e : Ending) (w' : World) : Prop :=
  ∃ b r p m j v k, Hd b r p m j v k ∧ e = .returned (hdv b r p m j v k) ∧ Below w.heap.size w w'
set_option maxHeartbeats 1000000 in
theorem f4_any (h : Nat) (hh : h < 4294967296) (w : World) : Calls Try.prog 4 #[.int .u32 h] w (HeadPost w) := by
  have a5 := u32_low (h / 32) 1 1 (by omega) (by decide) (by decide)
  have a6 := u32_low (h / 64) 1 1 (by omega) (by decide) (by decide)
  have a7 := u32_low (h / 128) 2 3 (by omega) (by decide) (by decide)
  have a11 := u32_low (h / 2048) 2 3 (by omega) (by decide) (by decide)
  have a13 := u32_low (h / 8192) 1 1 (by omega) (by decide) (by decide)
  simp at a5 a6 a7 a11 a13
  obtain ⟨z, hz3, hz⟩ : ∃ z : Nat, z ≤ 3 ∧ [Value.int .i64 0, Value.int .i64 1, Value.int .i64 3][h / 512 % 3]? = some (.int .i64 z) := by
    have : h / 512 % 3 < 3 := Nat.mod_lt _ (by omega)
    generalize h / 512 % 3 = x at *
    match x, this with
    | 0, _ => exact ⟨0, by omega, rfl⟩
    | 1, _ => exact ⟨1, by omega, rfl⟩
    | 2, _ => exact ⟨3, by omega, rfl⟩
  obtain ⟨m, hm3, hm⟩ : ∃ m : Nat, m ≤ 3 ∧ [Value.int .i64 0, Value.int .i64 1, Value.int .i64 2, Value.int .i64 3][h / 2048 % 4]? = some (.int .i64 m) := by
    have : h / 2048 % 4 < 4 := Nat.mod_lt _ (by omega)
    generalize h / 2048 % 4 = x at *
    match x, this with
    | 0, _ => exact ⟨0, by omega, rfl⟩
    | 1, _ => exact ⟨1, by omega, rfl⟩
    | 2, _ => exact ⟨2, by omega, rfl⟩
    | 3, _ => exact ⟨3, by omega, rfl⟩
  have hw63 : ∀ n : Int, 0 ≤ n → n < 2 ^ 63 → IntKind.i64.wrap n = n := by
    intro n h0 h1
    rw [IntKind.wrap_i64]; omega
  have o4 : bits .or .i64 ((h : Int) / 128 % 4 * 4) z = (h : Int) / 128 % 4 * 4 + z :=
    bits_join .i64 63 (by decide) hw63 2 _ _ (by omega) (by omega) (by omega) (by omega) (by omega) (by omega)
  clear hw63
  go_enter Try.func4, Try.ntmps4
  go_wp2
  all_goals
    refine bodyPost_ret (v := .agg #[.int .i64 (1 + (h : Int) % 14), .int .i64 ((h : Int) / 8 % 3), .int .i64 ((h : Int) / 32 % 2), .int .i64 m, .int .i64 _, .int .i64 ((h : Int) / 64 % 2), .int .i64 ((h : Int) / 128 % 4 * 4 + z)]) (by simp [results, Try.results4, go_sem]; rfl) rfl ?_
  · exact ⟨1 + h % 14, h / 8 % 3, h / 32 % 2, m, 2, h / 64 % 2, h / 128 % 4 * 4 + z, by constructor <;> omega, by simp [hdv], by repeat (first | exact Below.refl _ _ | refine Below.alloc ?_ (by simp; try omega) _)⟩
  · exact ⟨1 + h % 14, h / 8 % 3, h / 32 % 2, m, 0, h / 64 % 2, h / 128 % 4 * 4 + z, by constructor <;> omega, by simp [hdv], by repeat (first | exact Below.refl _ _ | refine Below.alloc ?_ (by simp; try omega) _)⟩
  · exact ⟨1 + h % 14, h / 8 % 3, h / 32 % 2, m, 0, h / 64 % 2, h / 128 % 4 * 4 + z, by constructor <;> omega, by simp [hdv], by repeat (first | exact Below.refl _ _ | refine Below.alloc ?_ (by simp; try omega) _)⟩

/-- The word of a header. -/
def wd (b r p m j v k : Nat) : Nat := 4294639616 + b * 4096 + r * 1024 + p * 512 + v * 256 + m * 64 + j * 16 + k
theorem f6_any (b r p m j v k : Nat) (H : Hd b r p m j v k) (w : World) :
    Calls Try.prog 6 #[hdv b r p m j v k] w fun e w' => e = .returned (.int .u32 (wd b r p m j v k : Nat)) ∧ Below w.heap.size w w' := by
  obtain ⟨b1, b2, r2, p2, m2, j2, v2, k2⟩ := H
  have hw63 : ∀ n : Int, 0 ≤ n → n < 2 ^ 63 → IntKind.i64.wrap n = n := by
    intro n h0 h1
    rw [IntKind.wrap_i64]; omega
  have o1 : bits .or .i64 4294639616 ((b : Int) * 4096) = 4294639616 + (b : Int) * 4096 :=
    bits_join .i64 63 (by decide) hw63 16 _ _ (by omega) (by omega) (by omega) (by omega) (by omega) (by omega)
  have o2 : bits .or .i64 (4294639616 + (b : Int) * 4096) ((r : Int) * 1024) = 4294639616 + (b : Int) * 4096 + (r : Int) * 1024 :=
    bits_join .i64 63 (by decide) hw63 12 _ _ (by omega) (by omega) (by omega) (by omega) (by omega) (by omega)
  have o3 : bits .or .i64 (4294639616 + (b : Int) * 4096 + (r : Int) * 1024) ((p : Int) * 512) = 4294639616 + (b : Int) * 4096 + (r : Int) * 1024 + (p : Int) * 512 :=
    bits_join .i64 63 (by decide) hw63 10 _ _ (by omega) (by omega) (by omega) (by omega) (by omega) (by omega)
  have o4 : bits .or .i64 (4294639616 + (b : Int) * 4096 + (r : Int) * 1024 + (p : Int) * 512) ((v : Int) * 256) = 4294639616 + (b : Int) * 4096 + (r : Int) * 1024 + (p : Int) * 512 + (v : Int) * 256 :=
    bits_join .i64 63 (by decide) hw63 9 _ _ (by omega) (by omega) (by omega) (by omega) (by omega) (by omega)
  have o5 : bits .or .i64 (4294639616 + (b : Int) * 4096 + (r : Int) * 1024 + (p : Int) * 512 + (v : Int) * 256) ((m : Int) * 64) = 4294639616 + (b : Int) * 4096 + (r : Int) * 1024 + (p : Int) * 512 + (v : Int) * 256 + (m : Int) * 64 :=
    bits_join .i64 63 (by decide) hw63 8 _ _ (by omega) (by omega) (by omega) (by omega) (by omega) (by omega)
  have o6 : bits .or .i64 (4294639616 + (b : Int) * 4096 + (r : Int) * 1024 + (p : Int) * 512 + (v : Int) * 256 + (m : Int) * 64) ((j : Int) * 16) = 4294639616 + (b : Int) * 4096 + (r : Int) * 1024 + (p : Int) * 512 + (v : Int) * 256 + (m : Int) * 64 + (j : Int) * 16 :=
    bits_join .i64 63 (by decide) hw63 6 _ _ (by omega) (by omega) (by omega) (by omega) (by omega) (by omega)
  have o7 : bits .or .i64 (4294639616 + (b : Int) * 4096 + (r : Int) * 1024 + (p : Int) * 512 + (v : Int) * 256 + (m : Int) * 64 + (j : Int) * 16) (k : Int) = 4294639616 + (b : Int) * 4096 + (r : Int) * 1024 + (p : Int) * 512 + (v : Int) * 256 + (m : Int) * 64 + (j : Int) * 16 + (k : Int) :=
    bits_join .i64 63 (by decide) hw63 4 _ _ (by omega) (by omega) (by omega) (by omega) (by omega) (by omega)
  clear hw63
  go_enter Try.func6, Try.ntmps6
  unfold hdv
  go_wp2
  go_ret
  exact ⟨by simp [wd], by repeat (first | exact Below.refl _ _ | refine Below.alloc ?_ (by simp; try omega) _)⟩

theorem f9_any (b r p m j v k : Nat) (H : Hd b r p m j v k) (w : World) :
    Calls Try.prog 9 #[hdv b r p m j v k] w fun e w' => e = .returned (.int .i64 (hz r : Nat)) ∧ Below w.heap.size w w' := by
  have r2 := H.r2
  clear H
  have hx : [Value.int .i64 44100, Value.int .i64 48000, Value.int .i64 32000][r]? = some (.int .i64 (hz r : Nat)) := by
    match r, r2 with
    | 0, _ => rfl
    | 1, _ => rfl
    | 2, _ => rfl
  generalize hz r = z at *
  go_enter Try.func9, Try.ntmps9
  unfold hdv
  go_wp2
  go_ret
  exact ⟨rfl, by repeat (first | exact Below.refl _ _ | refine Below.alloc ?_ (by simp; try omega) _)⟩
theorem f12_any (b r p m j v k : Nat) (H : Hd b r p m j v k) (w : World) :
    Calls Try.prog 12 #[hdv b r p m j v k] w fun e w' => e = .returned (.int .i64 (1000 * kbit b : Nat)) ∧ Below w.heap.size w w' := by
  have b2 := H.b2
  clear H
  obtain ⟨z, hz, hz2, hx⟩ : ∃ z, kbit b = z ∧ z ≤ 320 ∧ [Value.int .i64 0, Value.int .i64 32, Value.int .i64 40, Value.int .i64 48, Value.int .i64 56, Value.int .i64 64, Value.int .i64 80, Value.int .i64 96, Value.int .i64 112, Value.int .i64 128, Value.int .i64 160, Value.int .i64 192, Value.int .i64 224, Value.int .i64 256, Value.int .i64 320][b]? = some (.int .i64 (z : Nat)) := by
    refine ⟨_, rfl, ?_, ?_⟩
    · have : ∀ b : Fin 15, kbit b.val ≤ 320 := by decide
      exact this ⟨b, by omega⟩
    · have : ∀ b : Fin 15, ([0, 32, 40, 48, 56, 64, 80, 96, 112, 128, 160, 192, 224, 256, 320] : List Int)[b.val]? = some ((kbit b.val : Nat) : Int) := by decide
      have h := this ⟨b, by omega⟩
      simp only at h
      have e : [Value.int .i64 0, Value.int .i64 32, Value.int .i64 40, Value.int .i64 48, Value.int .i64 56, Value.int .i64 64, Value.int .i64 80, Value.int .i64 96, Value.int .i64 112, Value.int .i64 128, Value.int .i64 160, Value.int .i64 192, Value.int .i64 224, Value.int .i64 256, Value.int .i64 320] = ([0, 32, 40, 48, 56, 64, 80, 96, 112, 128, 160, 192, 224, 256, 320] : List Int).map (Value.int .i64) := rfl
      rw [e, List.getElem?_map, h, Option.map_some]
  rw [hz]
  clear hz
  go_enter Try.func12, Try.ntmps12
  unfold hdv
  go_wp2
  go_ret
  exact ⟨by simp, by repeat (first | exact Below.refl _ _ | refine Below.alloc ?_ (by simp; try omega) _)⟩

theorem bcell {W w1 : World} (hb : Below W.heap.size W w1) : (∀ b o, b < W.heap.size → w1.cell? ⟨b, o, none⟩ = W.cell? ⟨b, o, none⟩) ∧ (∀ b o, b < W.heap.size → w1.frozen? ⟨b, o, none⟩ = W.frozen? ⟨b, o, none⟩) :=
  ⟨fun b o h => hb.cell (p := ⟨b, o, none⟩) h, fun b o h => hb.frozen (p := ⟨b, o, none⟩) h⟩
/-- How many bytes a frame has. -/
def sz (b r p : Nat) : Nat := 144 * (1000 * kbit b) / hz r + p
set_option maxHeartbeats 2000000 in
theorem f8_any (b r p m j v k : Nat) (H : Hd b r p m j v k) (w : World) :
    Calls Try.prog 8 #[hdv b r p m j v k] w fun e w' => e = .returned (.int .i64 (sz b r p : Nat)) ∧ Below w.heap.size w w' := by
  have c12 := Lib.hid (f12_any b r p m j v k H)
  have c9 := Lib.hid (f9_any b r p m j v k H)
  have p2 := H.p2
  have hk : kbit b ≤ 320 := by
    have : ∀ b : Fin 15, kbit b.val ≤ 320 := by decide
    exact this ⟨b, by have := H.b2; omega⟩
  have hh1 : 32000 ≤ hz r ∧ hz r ≤ 48000 := by unfold hz; split <;> (try split) <;> omega
  obtain ⟨hh1, hh2⟩ := hh1
  unfold sz
  generalize kbit b = x at *
  generalize hz r = y at *
  clear H
  have e1 : IntKind.i64.wrap (144 * (1000 * (x : Int))) = 144 * (1000 * (x : Int)) := IntWalk.i64_in _ (by omega)
  have hy1 : ((y : Int) == 0) = false := by simp; omega
  have hy2 : ¬ (y : Int) = 0 := by omega
  have hq : (144 * (1000 * (x : Int))).tdiv (y : Int) = 144 * (1000 * (x : Int)) / (y : Int) := Int.tdiv_eq_ediv_of_nonneg (by omega)
  have e3 : IntKind.i64.wrap (144 * (1000 * (x : Int)) / (y : Int)) = 144 * (1000 * (x : Int)) / (y : Int) := by
    have h0 : 0 ≤ 144 * (1000 * (x : Int)) / (y : Int) := Int.ediv_nonneg (by omega) (by omega)
    have h1 : 144 * (1000 * (x : Int)) / (y : Int) ≤ 144 * (1000 * (x : Int)) := Int.ediv_le_self _ (by omega)
    exact IntWalk.i64_in _ (by omega)
  have e2 : IntKind.i64.wrap (144 * (1000 * (x : Int)) / (y : Int) + (p : Int)) = 144 * (1000 * (x : Int)) / (y : Int) + (p : Int) := by
    have h0 : 0 ≤ 144 * (1000 * (x : Int)) / (y : Int) := Int.ediv_nonneg (by omega) (by omega)
    have h1 : 144 * (1000 * (x : Int)) / (y : Int) ≤ 144 * (1000 * (x : Int)) := Int.ediv_le_self _ (by omega)
    exact IntWalk.i64_in _ (by omega)
  go_enter Try.func8, Try.ntmps8
  unfold hdv at *
  go_wp2_with fail
  go_region_with (first
    | (go_at_call 12; refine (c12.out _).mono ?_; rintro e w1 ⟨rfl, hb⟩; obtain ⟨hc, hf⟩ := bcell hb; have hsz : w.heap.size < w1.heap.size := (by have := hb.size; simp at this; omega))
    | (go_at_call 9; refine (c9.out _).mono ?_; rintro e w2 ⟨rfl, hb2⟩; obtain ⟨hc2, hf2⟩ := bcell hb2; have hsz2 : w.heap.size < w2.heap.size := (by have := hb2.size; omega)))
  all_goals
    go_wp2
    go_ret
    exact ⟨by simp [Act.put], (((Below.refl _ _).alloc (Nat.le_refl _) _).drew.trans (hb.mono (by simp))).trans (hb2.mono (by omega))⟩
end Go.Proofs.Ytnbhjoceodngaaa.fnSize
