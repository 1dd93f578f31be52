/-
  math/bits.Mul64 (its own Go text walked), Add64 and Sub64 (the model's entries), AT THIS DUMP; THEN mulAdd.
-/
import Derived.Test.YbulkbmhwRows
import Derived.WalkKit
import Derived.WalkSpells
import Derived.WalkLawsBesides
import Derived.Shelf.Spec.BitsCarry
import Derived.Shelf.Bits.Mul64
import Derived.RowKit3
namespace Go.Proofs.Ybulkbmhw
open Go.RowKit

/-! ### Add64, Sub64 -/
theorem add64 (x y c : Int) (hx : 0 ≤ x) (hy : 0 ≤ y) (hc0 : 0 ≤ c) (hc : c ≤ 1) (w : World) : (callFunc 15 #[.int .u64 x, .int .u64 y, .int .u64 c]).run Yba.prog w =
    .ok (.value (.tuple #[.int .u64 ((x + y + c) % 18446744073709551616), .int .u64 ((x + y + c) / 18446744073709551616)])) w := by
  obtain ⟨x, rfl⟩ := Int.eq_ofNat_of_zero_le hx
  obtain ⟨y, rfl⟩ := Int.eq_ofNat_of_zero_le hy
  obtain ⟨c, rfl⟩ := Int.eq_ofNat_of_zero_le hc0
  rw [run_callFunc_extern Yba.func15 (by kernel_rfl) (by kernel_rfl) (by kernel_rfl) (e := add64Entry) (by kernel_rfl), run_add64 x y c (by omega) (by omega) (by omega) (by omega)]
  simp only [Result.andThen]
theorem sub64 (x y b : Int) (hx : 0 ≤ x) (hy : 0 ≤ y) (hy' : y < 18446744073709551616) (hb0 : 0 ≤ b) (hb : b ≤ 1) (w : World) : (callFunc 17 #[.int .u64 x, .int .u64 y, .int .u64 b]).run Yba.prog w =
    .ok (.value (.tuple #[.int .u64 ((x - y - b) % 18446744073709551616), .int .u64 (if x < y + b then 1 else 0)])) w := by
  obtain ⟨x, rfl⟩ := Int.eq_ofNat_of_zero_le hx
  obtain ⟨y, rfl⟩ := Int.eq_ofNat_of_zero_le hy
  obtain ⟨b, rfl⟩ := Int.eq_ofNat_of_zero_le hb0
  have e1 : (((x + 18446744073709551616 - y - b) % 18446744073709551616 : Nat) : Int) = ((x : Int) - y - b) % 18446744073709551616 := by omega
  have e2 : ((if x < y + b then 1 else 0 : Nat) : Int) = if (x : Int) < y + b then 1 else 0 := by split <;> split <;> omega
  rw [← e1, ← e2]
  rw [run_callFunc_extern Yba.func17 (by kernel_rfl) (by kernel_rfl) (by kernel_rfl) (e := sub64Entry) (by kernel_rfl), run_sub64 x y b (by omega)]
  simp only [Result.andThen]

/-! ### Mul64 by 10 -/
set_option maxHeartbeats 1000000 in
theorem mul64N (x y : Nat) (hx : x < 18446744073709551616) (hy : y < 18446744073709551616) (w : World) :
    Calls Yba.prog 14 #[.int .u64 x, .int .u64 y] w fun e w' => e = .returned (.tuple #[.int .u64 ((x * y / 18446744073709551616 : Nat) : Int), .int .u64 ((x * y % 18446744073709551616 : Nat) : Int)]) ∧ w' = w := by
  obtain ⟨bd, bt, bw, hhi⟩ := Lib.mul64_hi x y hx hy
  have ba := Lib.half_mul_le (a := x / 4294967296) (b := y / 4294967296) (by omega) (by omega)
  have bb := Lib.half_mul_le (a := x / 4294967296) (b := y % 4294967296) (by omega) (by omega)
  have bc := Lib.half_mul_le (a := x % 4294967296) (b := y / 4294967296) (by omega) (by omega)
  have ba' : x / 4294967296 * (y / 4294967296) < 18446744073709551616 := by omega
  have bb' : x / 4294967296 * (y % 4294967296) < 18446744073709551616 := by omega
  have bc' : x % 4294967296 * (y / 4294967296) < 18446744073709551616 := by omega
  have bh1 : x / 4294967296 * (y / 4294967296) + (x / 4294967296 * (y % 4294967296) + x % 4294967296 * (y % 4294967296) / 4294967296) / 4294967296 < 18446744073709551616 := by omega
  have bh : x / 4294967296 * (y / 4294967296) + (x / 4294967296 * (y % 4294967296) + x % 4294967296 * (y % 4294967296) / 4294967296) / 4294967296 + ((x / 4294967296 * (y % 4294967296) + x % 4294967296 * (y % 4294967296) / 4294967296) % 4294967296 + x % 4294967296 * (y / 4294967296)) / 4294967296 < 18446744073709551616 := by omega
  go_enter Yba.func14, Yba.ntmps14
  go_wp2
  simp only [Mul64.maskN x hx, Mul64.maskN y hy, Mul64.divN, Mul64.mulN, Mul64.addN, Mul64.wrapN _ bd, Mul64.wrapN _ bb', Mul64.wrapN _ bt, Mul64.maskN _ bt, Mul64.wrapN _ bc', Mul64.wrapN _ bw, Mul64.wrapN _ ba', Mul64.wrapN _ bh1, Mul64.wrapN _ bh, Mul64.wrapM (x * y)]
  rw [hhi]
  go_ret2
  exact ⟨rfl, rfl⟩

/-! ### The two words, under names: the walk's simp does not look behind them -/
def lo64 (n : Int) : Int := n % 18446744073709551616
def hi64 (n : Int) : Int := n / 18446744073709551616
theorem lo64_pos (n : Int) : 0 ≤ lo64 n := by unfold lo64; omega
theorem lo64_lt (n : Int) : lo64 n < 18446744073709551616 := by unfold lo64; omega
theorem hi64_pos (n : Int) (h : 0 ≤ n) : 0 ≤ hi64 n := by unfold hi64; omega

theorem mul64_10 (x : Int) (hx : 0 ≤ x) (hx' : x < 18446744073709551616) (w : World) :
    Calls Yba.prog 14 #[.int .u64 x, .int .u64 10] w fun e w' => e = .returned (.tuple #[.int .u64 (hi64 (x * 10)), .int .u64 (lo64 (x * 10))]) ∧ w' = w := by
  obtain ⟨x, rfl⟩ := Int.eq_ofNat_of_zero_le hx
  have h := mul64N x 10 (by omega) (by omega) w
  refine h.mono ?_
  rintro e w' ⟨rfl, rfl⟩
  exact ⟨rfl, rfl⟩
theorem add64_0 (x y : Int) (hx : 0 ≤ x) (hy : 0 ≤ y) (w : World) : (callFunc 15 #[.int .u64 x, .int .u64 y, .int .u64 0]).run Yba.prog w =
    .ok (.value (.tuple #[.int .u64 (lo64 (x + y)), .int .u64 (hi64 (x + y))])) w := by
  have := add64 x y 0 hx hy (Int.le_refl 0) (by decide) w
  rw [Int.add_zero] at this
  exact this
theorem add64_z (x c : Int) (hx : 0 ≤ x) (hc0 : 0 ≤ c) (hc : c ≤ 1) (w : World) : (callFunc 15 #[.int .u64 x, .int .u64 0, .int .u64 c]).run Yba.prog w =
    .ok (.value (.tuple #[.int .u64 (lo64 (x + c)), .int .u64 (hi64 (x + c))])) w := by
  have := add64 x 0 c hx (Int.le_refl 0) hc0 hc w
  rw [Int.add_zero] at this
  exact this

/-! ### mulAdd -/
/-- The value that mulAdd reckons. -/
def nextV (h l d : Int) : Int := (h * 18446744073709551616 + l) * 10 + d

set_option maxHeartbeats 400000 in
theorem mulAdd_core (h l d : Int) (h0 : 0 ≤ h) (h1 : h < 18446744073709551616) (l0 : 0 ≤ l) (l1 : l < 18446744073709551616) (d0 : 0 ≤ d) (d1 : d ≤ 9) (w : World) :
    Calls Yba.prog 12 #[.agg #[.int .u64 h, .int .u64 l], .int .u64 10, .int .u64 d] w fun e w' =>
      e = .returned (.tuple #[.agg #[.int .u64 (lo64 (lo64 (lo64 (h * 10) + hi64 (l * 10)) + hi64 (lo64 (l * 10) + d))), .int .u64 (lo64 (lo64 (l * 10) + d))],
        .bool (decide (hi64 (h * 10) = 0 ∧ hi64 (lo64 (h * 10) + hi64 (l * 10)) = 0 ∧ hi64 (lo64 (lo64 (h * 10) + hi64 (l * 10)) + hi64 (lo64 (l * 10) + d)) = 0))]) ∧ ∃ c1 c2 : Array Value, w' = (w.alloc (.cells c1 56)).alloc (.cells c2 56) := by
  have k1 : 0 ≤ lo64 (h * 10) := lo64_pos _
  have k2 : 0 ≤ hi64 (l * 10) := hi64_pos _ (by omega)
  have k3 : 0 ≤ lo64 (l * 10) := lo64_pos _
  have k4 : 0 ≤ lo64 (lo64 (h * 10) + hi64 (l * 10)) := lo64_pos _
  have k5 : 0 ≤ hi64 (lo64 (l * 10) + d) := hi64_pos _ (by omega)
  have k6 : hi64 (lo64 (l * 10) + d) ≤ 1 := by have := lo64_lt (l * 10); unfold hi64; omega
  generalize e1 : hi64 (h * 10) = v1 at *
  generalize e2 : lo64 (h * 10) = v2 at *
  generalize e3 : hi64 (l * 10) = v3 at *
  generalize e4 : lo64 (l * 10) = v4 at *
  have m1 := fun w => mul64_10 h h0 h1 w
  have m2 := fun w => mul64_10 l l0 l1 w
  rw [e1, e2] at m1
  rw [e3, e4] at m2
  have M1 : Hid (∀ w : World, Calls Yba.prog 14 #[.int .u64 h, .int .u64 10] w fun e w' => e = .returned (.tuple #[.int .u64 v1, .int .u64 v2]) ∧ w' = w) := m1
  have M2 : Hid (∀ w : World, Calls Yba.prog 14 #[.int .u64 l, .int .u64 10] w fun e w' => e = .returned (.tuple #[.int .u64 v3, .int .u64 v4]) ∧ w' = w) := m2
  clear m1 m2 e1 e2 e3 e4
  generalize f1 : hi64 (v2 + v3) = v5 at *
  generalize f2 : lo64 (v2 + v3) = v6 at *
  generalize f3 : hi64 (v4 + d) = v7 at *
  generalize f4 : lo64 (v4 + d) = v8 at *
  generalize f5 : hi64 (v6 + v7) = v9 at *
  generalize f6 : lo64 (v6 + v7) = v10 at *
  have a1 := fun w => add64_0 v2 v3 k1 k2 w
  have a2 := fun w => add64_0 v4 d k3 d0 w
  have a3 := fun w => add64_z v6 v7 k4 k5 k6 w
  rw [f1, f2] at a1
  rw [f3, f4] at a2
  rw [f5, f6] at a3
  clear f1 f2 f3 f4 f5 f6
  by_cases g1 : v1 = 0
  · by_cases g2 : v5 = 0
    · go_enter Yba.func12, Yba.ntmps12
      go_wp2_with fail
      refine (M1.out _).mono ?_
      rintro e w' ⟨rfl, rfl⟩
      go_wp2_with fail
      refine (M2.out _).mono ?_
      rintro e w' ⟨rfl, rfl⟩
      go_wp2
      refine bodyPost_ret (v := .tuple #[.agg #[.int .u64 v10, .int .u64 v8], .bool (v9 == 0)]) (by simp [results, Yba.results12, go_sem]) rfl ⟨?_, _, _, rfl⟩
      simp [g1, g2, Bool.beq_eq_decide_eq]
    · have g2' : (v5 == 0) = false := by simpa using g2
      go_enter Yba.func12, Yba.ntmps12
      go_wp2_with fail
      refine (M1.out _).mono ?_
      rintro e w' ⟨rfl, rfl⟩
      go_wp2_with fail
      refine (M2.out _).mono ?_
      rintro e w' ⟨rfl, rfl⟩
      go_wp2
      refine bodyPost_ret (v := .tuple #[.agg #[.int .u64 v10, .int .u64 v8], .bool false]) (by simp [results, Yba.results12, go_sem]) rfl ⟨?_, _, _, rfl⟩
      simp [g2]
  · have g1' : (v1 == 0) = false := by simpa using g1
    go_enter Yba.func12, Yba.ntmps12
    go_wp2_with fail
    refine (M1.out _).mono ?_
    rintro e w' ⟨rfl, rfl⟩
    go_wp2_with fail
    refine (M2.out _).mono ?_
    rintro e w' ⟨rfl, rfl⟩
    go_wp2
    refine bodyPost_ret (v := .tuple #[.agg #[.int .u64 v10, .int .u64 v8], .bool false]) (by simp [results, Yba.results12, go_sem]) rfl ⟨?_, _, _, rfl⟩
    simp [g1]

/-- What mulAdd hands back where the value stays below 2^128. -/
theorem mulAdd_ok (h l d : Int) (h0 : 0 ≤ h) (h1 : h < 18446744073709551616) (l0 : 0 ≤ l) (l1 : l < 18446744073709551616) (d0 : 0 ≤ d) (d1 : d ≤ 9) (w : World)
    (hv : nextV h l d < 340282366920938463463374607431768211456) :
    Calls Yba.prog 12 #[.agg #[.int .u64 h, .int .u64 l], .int .u64 10, .int .u64 d] w fun e w' =>
      e = .returned (.tuple #[.agg #[.int .u64 (hi64 (nextV h l d)), .int .u64 (lo64 (nextV h l d))], .bool true]) ∧ ∃ c1 c2 : Array Value, w' = (w.alloc (.cells c1 56)).alloc (.cells c2 56) := by
  refine (mulAdd_core h l d h0 h1 l0 l1 d0 d1 w).mono ?_
  rintro e w' ⟨rfl, hw⟩
  refine ⟨?_, hw⟩
  have e1 : lo64 (lo64 (lo64 (h * 10) + hi64 (l * 10)) + hi64 (lo64 (l * 10) + d)) = hi64 (nextV h l d) := by unfold nextV at hv; unfold nextV lo64 hi64; omega
  have e2 : lo64 (lo64 (l * 10) + d) = lo64 (nextV h l d) := by unfold nextV lo64; omega
  have e3 : hi64 (h * 10) = 0 ∧ hi64 (lo64 (h * 10) + hi64 (l * 10)) = 0 ∧ hi64 (lo64 (lo64 (h * 10) + hi64 (l * 10)) + hi64 (lo64 (l * 10) + d)) = 0 := by
    unfold nextV at hv
    have q1 : h * 10 < 18446744073709551616 := by omega
    have q2 : lo64 (h * 10) = h * 10 := by unfold lo64; omega
    have q3 : hi64 (h * 10) = 0 := by unfold hi64; omega
    have q4 : h * 10 + hi64 (l * 10) < 18446744073709551616 := by unfold hi64; omega
    have q5 : 0 ≤ h * 10 + hi64 (l * 10) := by unfold hi64; omega
    have q6 : lo64 (h * 10 + hi64 (l * 10)) = h * 10 + hi64 (l * 10) := by unfold lo64; omega
    have q7 : h * 10 + hi64 (l * 10) + hi64 (lo64 (l * 10) + d) < 18446744073709551616 := by unfold hi64 lo64; omega
    have q8 : 0 ≤ hi64 (lo64 (l * 10) + d) := by unfold hi64 lo64; omega
    rw [q3, q2, q6]
    refine ⟨rfl, ?_, ?_⟩
    · show (h * 10 + hi64 (l * 10)) / 18446744073709551616 = 0; omega
    · show (h * 10 + hi64 (l * 10) + hi64 (lo64 (l * 10) + d)) / 18446744073709551616 = 0; omega
  rw [e1, e2, decide_eq_true e3]

/-- What mulAdd hands back where it does not. -/
theorem mulAdd_no (h l d : Int) (h0 : 0 ≤ h) (h1 : h < 18446744073709551616) (l0 : 0 ≤ l) (l1 : l < 18446744073709551616) (d0 : 0 ≤ d) (d1 : d ≤ 9) (w : World)
    (hv : 340282366920938463463374607431768211456 ≤ nextV h l d) :
    Calls Yba.prog 12 #[.agg #[.int .u64 h, .int .u64 l], .int .u64 10, .int .u64 d] w fun e w' =>
      ∃ h' l' : Int, e = .returned (.tuple #[.agg #[.int .u64 h', .int .u64 l'], .bool false]) ∧ ∃ c1 c2 : Array Value, w' = (w.alloc (.cells c1 56)).alloc (.cells c2 56) := by
  refine (mulAdd_core h l d h0 h1 l0 l1 d0 d1 w).mono ?_
  rintro e w' ⟨rfl, hw⟩
  have e3 : ¬ (hi64 (h * 10) = 0 ∧ hi64 (lo64 (h * 10) + hi64 (l * 10)) = 0 ∧ hi64 (lo64 (lo64 (h * 10) + hi64 (l * 10)) + hi64 (lo64 (l * 10) + d)) = 0) := by
    unfold nextV at hv; unfold lo64 hi64; omega
  rw [decide_eq_false e3]
  exact ⟨_, _, rfl, hw⟩
end Go.Proofs.Ybulkbmhw
