/-
  Neg AND fromMagnitude.
-/
import Derived.Test.YbulkbmhwBits
import Derived.Below
namespace Go.Proofs.Ybulkbmhw
open Go.RowKit

/-- An Int as its two words: the high one signed. -/
def two (v : Int) : Value := .agg #[.int .i64 (hi64 v), .int .u64 (lo64 v)]

theorem sub64_v (y b : Int) (hy : 0 ≤ y) (hy' : y < 18446744073709551616) (hb0 : 0 ≤ b) (hb : b ≤ 1) (w : World) : (callFunc 17 #[.int .u64 0, .int .u64 y, .int .u64 b]).run Yba.prog w =
    .ok (.value (.tuple #[.int .u64 (lo64 (0 - y - b)), .int .u64 (if 0 < y + b then 1 else 0)])) w :=
  sub64 0 y b (Int.le_refl 0) hy hy' hb0 hb w

set_option maxHeartbeats 400000 in
theorem neg_core (hi lo v1 v2 v3 v4 : Int) (h0 : 0 ≤ hi) (h1 : hi < 9223372036854775808)
    (s1 : ∀ w, (callFunc 17 #[.int .u64 0, .int .u64 lo, .int .u64 0]).run Yba.prog w = .ok (.value (.tuple #[.int .u64 v1, .int .u64 v2])) w)
    (s2 : ∀ w, (callFunc 17 #[.int .u64 0, .int .u64 hi, .int .u64 v2]).run Yba.prog w = .ok (.value (.tuple #[.int .u64 v3, .int .u64 v4])) w) (w : World) :
    Calls Yba.prog 16 #[.agg #[.int .i64 hi, .int .u64 lo]] w fun e w' => e = .returned (.agg #[.int .i64 (wrap64 v3), .int .u64 v1]) ∧ ∃ c1 c2 : Array Value, w' = (w.alloc (.cells c1 29)).alloc (.cells c2 29) := by
  go_enter Yba.func16, Yba.ntmps16
  go_wp2
  exact bodyPost_ret (v := .agg #[.int .i64 (wrap64 v3), .int .u64 v1]) (by simp [results, Yba.results16, go_sem]) rfl ⟨rfl, _, _, rfl⟩

theorem neg_any (n : Int) (h0 : 0 ≤ n) (h1 : n < 170141183460469231731687303715884105728) (w : World) :
    Calls Yba.prog 16 #[.agg #[.int .i64 (hi64 n), .int .u64 (lo64 n)]] w fun e w' => e = .returned (.agg #[.int .i64 (hi64 (-n)), .int .u64 (lo64 (-n))]) ∧ ∃ c1 c2 : Array Value, w' = (w.alloc (.cells c1 29)).alloc (.cells c2 29) := by
  have b0 : (0 : Int) ≤ (if 0 < lo64 n + 0 then 1 else 0) := by split <;> decide
  have b1 : (if 0 < lo64 n + 0 then 1 else 0 : Int) ≤ 1 := by split <;> decide
  have k1 : hi64 n < 18446744073709551616 := by unfold hi64; omega
  have k2 : hi64 n < 9223372036854775808 := by unfold hi64; omega
  have h := neg_core (hi64 n) (lo64 n) _ _ _ _ (hi64_pos n h0) k2 (fun w => sub64_v (lo64 n) 0 (lo64_pos n) (lo64_lt n) (Int.le_refl 0) (by decide) w)
    (fun w => sub64_v (hi64 n) _ (hi64_pos n h0) k1 b0 b1 w) w
  have e1 : lo64 (0 - lo64 n - 0) = lo64 (-n) := by unfold lo64; omega
  have e2 : wrap64 (lo64 (0 - hi64 n - (if 0 < lo64 n + 0 then 1 else 0))) = hi64 (-n) := by
    clear h b0 b1
    unfold wrap64 lo64 hi64
    split <;> omega
  rw [e1, e2] at h
  exact h

/-! ### fromMagnitude -/
set_option maxHeartbeats 400000 in
theorem from_big (neg : Bool) (h l : Int) (hh : 9223372036854775808 ≤ h) (w : World) :
    Calls Yba.prog 13 #[.bool neg, .agg #[.int .u64 h, .int .u64 l]] w fun e w' => e = .returned (.tuple #[.agg #[.int .i64 0, .int .u64 0], .bool false]) ∧ Below w.heap.size w w' := by
  go_enter Yba.func13, Yba.ntmps13
  go_wp2
  refine bodyPost_ret (v := .tuple #[.agg #[.int .i64 0, .int .u64 0], .bool false]) (by simp [results, Yba.results13, go_sem]) rfl ⟨rfl, ?_⟩
  exact (((Below.refl _ _).alloc (Nat.le_refl _) _).alloc (by simp) _)

set_option maxHeartbeats 400000 in
theorem from_pos (n : Int) (h0 : 0 ≤ n) (h1 : n < 170141183460469231731687303715884105728) (w : World) :
    Calls Yba.prog 13 #[.bool false, .agg #[.int .u64 (hi64 n), .int .u64 (lo64 n)]] w fun e w' => e = .returned (.tuple #[.agg #[.int .i64 (hi64 n), .int .u64 (lo64 n)], .bool true]) ∧ Below w.heap.size w w' := by
  have k2 : hi64 n < 9223372036854775808 := by unfold hi64; omega
  have k1 : 0 ≤ hi64 n := hi64_pos n h0
  generalize hi64 n = h at *
  generalize lo64 n = l at *
  clear h0 h1
  go_enter Yba.func13, Yba.ntmps13
  go_wp2
  refine bodyPost_ret (v := .tuple #[.agg #[.int .i64 h, .int .u64 l], .bool true]) (by simp [results, Yba.results13, go_sem]) rfl ⟨rfl, ?_⟩
  exact ((((Below.refl _ _).alloc (Nat.le_refl _) _).alloc (by simp) _).alloc (by simp; omega) _)

set_option maxHeartbeats 400000 in
theorem from_neg (n : Int) (h0 : 0 ≤ n) (h1 : n < 170141183460469231731687303715884105728) (w : World) :
    Calls Yba.prog 13 #[.bool true, .agg #[.int .u64 (hi64 n), .int .u64 (lo64 n)]] w fun e w' => e = .returned (.tuple #[.agg #[.int .i64 (hi64 (-n)), .int .u64 (lo64 (-n))], .bool true]) ∧ Below w.heap.size w w' := by
  have k2 : hi64 n < 9223372036854775808 := by unfold hi64; omega
  have k1 : 0 ≤ hi64 n := hi64_pos n h0
  have N : Hid (∀ w : World, Calls Yba.prog 16 #[.agg #[.int .i64 (hi64 n), .int .u64 (lo64 n)]] w fun e w' => e = .returned (.agg #[.int .i64 (hi64 (-n)), .int .u64 (lo64 (-n))]) ∧ ∃ c1 c2 : Array Value, w' = (w.alloc (.cells c1 29)).alloc (.cells c2 29)) :=
    fun w => neg_any n h0 h1 w
  generalize hi64 n = h at *
  generalize lo64 n = l at *
  generalize hi64 (-n) = h' at *
  generalize lo64 (-n) = l' at *
  clear h0 h1
  go_enter Yba.func13, Yba.ntmps13
  go_wp2_with fail
  refine (N.out _).mono ?_
  rintro e w' ⟨rfl, c1, c2, rfl⟩
  go_wp2
  refine bodyPost_ret (v := .tuple #[.agg #[.int .i64 h', .int .u64 l'], .bool true]) (by simp [results, Yba.results13, go_sem]) rfl ⟨rfl, ?_⟩
  exact (((((Below.refl _ _).alloc (Nat.le_refl _) _).alloc (by simp) _).alloc (by simp; omega) _).alloc (by simp; omega) _).alloc (by simp; omega) _
end Go.Proofs.Ybulkbmhw
