/-
  THE WALKS OF floatTypeName AND zzs3159bcheck.
-/
import Derived.Test.YbulkbmkaRows
import Derived.WalkKit
import Derived.WalkSpells
import Derived.WalkLawsBesides
import Derived.Below
import Derived.OwnWalk
namespace Go.Proofs.Ybulkbmka
open Go.RowKit

theorem eqlNil (w : World) (a : Option Addr) (n c : Nat) : (binOp .eql 22 (.slice a n c) (.slice none 0 0)).run Yba.prog w = .ok (.bool a.isNone) w :=
  Lib.run_eql_slice_nil w 22 3 a n c 0 0 Yba.underlying22
theorem neqNil (w : World) (a : Option Addr) (n c : Nat) : (binOp .neq 22 (.slice a n c) (.slice none 0 0)).run Yba.prog w = .ok (.bool (!a.isNone)) w :=
  run_neq_slice_nil_any w 22 3 a n c 0 0 Yba.underlying22

theorem float_nil (w : World) :
    Calls Yba.prog 5 #[.slice none 0 0] w fun e w' => e = .returned (.agg #[.string ⟨#[102, 108, 111, 97, 116, 56]⟩, .slice none 0 0, .bool false, .pointer none]) ∧ Below w.heap.size w w' := by
  have hq := eqlNil
  go_enter Yba.func5, Yba.ntmps5
  go_wp2
  exact bodyPost_ret (v := .agg #[.string ⟨#[102, 108, 111, 97, 116, 56]⟩, .slice none 0 0, .bool false, .pointer none]) (by simp [results, Yba.results5, go_sem]) rfl ⟨rfl, (Below.refl _ _).alloc (Nat.le_refl _) _⟩

theorem float_four (b off n c : Nat) (x : Int) (w : World) (hn : 0 < n) (hb : b < w.heap.size) (hc : w.cell? ⟨b, off, none⟩ = some (.int .i64 x)) (h1 : 1 ≤ x) (h2 : x ≤ 24) :
    Calls Yba.prog 5 #[.slice (some ⟨b, off, none⟩) n c] w fun e w' => e = .returned (.agg #[.string ⟨#[102, 108, 111, 97, 116, 52]⟩, .slice none 0 0, .bool false, .pointer none]) ∧ Below w.heap.size w w' := by
  have hq := eqlNil
  go_enter Yba.func5, Yba.ntmps5
  go_wp2
  exact bodyPost_ret (v := .agg #[.string ⟨#[102, 108, 111, 97, 116, 52]⟩, .slice none 0 0, .bool false, .pointer none]) (by simp [results, Yba.results5, go_sem]) rfl ⟨rfl, (Below.refl _ _).alloc (Nat.le_refl _) _⟩

theorem float_eight (b off n c : Nat) (x : Int) (w : World) (hn : 0 < n) (hb : b < w.heap.size) (hc : w.cell? ⟨b, off, none⟩ = some (.int .i64 x)) (h1 : 24 < x) (h2 : x ≤ 53) :
    Calls Yba.prog 5 #[.slice (some ⟨b, off, none⟩) n c] w fun e w' => e = .returned (.agg #[.string ⟨#[102, 108, 111, 97, 116, 56]⟩, .slice none 0 0, .bool false, .pointer none]) ∧ Below w.heap.size w w' := by
  have hq := eqlNil
  go_enter Yba.func5, Yba.ntmps5
  go_wp2
  exact bodyPost_ret (v := .agg #[.string ⟨#[102, 108, 111, 97, 116, 56]⟩, .slice none 0 0, .bool false, .pointer none]) (by simp [results, Yba.results5, go_sem]) rfl ⟨rfl, (Below.refl _ _).alloc (Nat.le_refl _) _⟩

/-- A refusal: the error's block is the second new one: its code and its hint. -/
theorem float_bad (b off n c : Nat) (x : Int) (w : World) (hn : 0 < n) (hb : b < w.heap.size) (hc : w.cell? ⟨b, off, none⟩ = some (.int .i64 x)) (h : x < 1 ∨ 53 < x) :
    Calls Yba.prog 5 #[.slice (some ⟨b, off, none⟩) n c] w fun e w' => e = .returned (.agg #[.string ⟨#[]⟩, .slice none 0 0, .bool false, .pointer (some ⟨w.heap.size + 1, 0, none⟩)]) ∧
      w'.cell? ⟨w.heap.size + 1, 1, none⟩ = some (.string ⟨#[50, 50, 48, 50, 51]⟩) ∧ w'.cell? ⟨w.heap.size + 1, 2, none⟩ = some (.string ⟨#[]⟩) ∧ w.heap.size + 2 ≤ w'.heap.size ∧ Below w.heap.size w w' := by
  have hq := eqlNil
  rcases h with h | h
  · go_enter Yba.func5, Yba.ntmps5
    go_wp2
    exact bodyPost_ret (v := .agg #[.string ⟨#[]⟩, .slice none 0 0, .bool false, .pointer (some ⟨w.heap.size + 1, 0, none⟩)]) (by simp [results, Yba.results5, go_sem]) rfl
      ⟨rfl, by go_simp, by go_simp, by simp, ((Below.refl _ _).alloc (Nat.le_refl _) _).alloc (by simp) _⟩
  · have h1 : 1 ≤ x := by omega
    go_enter Yba.func5, Yba.ntmps5
    go_wp2
    exact bodyPost_ret (v := .agg #[.string ⟨#[]⟩, .slice none 0 0, .bool false, .pointer (some ⟨w.heap.size + 1, 0, none⟩)]) (by simp [results, Yba.results5, go_sem]) rfl
      ⟨rfl, by go_simp, by go_simp, by simp, ((Below.refl _ _).alloc (Nat.le_refl _) _).alloc (by simp) _⟩

/-! ### zzs3159bcheck -/
theorem check_nil (bits : Int) (w : World) :
    Calls Yba.prog 6 #[.agg #[.string ⟨#[102, 108, 111, 97, 116, 56]⟩, .slice none 0 0, .bool false, .pointer none], .bool false, .int .i64 bits] w fun e w' => e = .returned (.bool true) ∧ Below w.heap.size w w' := by
  have hq := neqNil
  go_enter Yba.func6, Yba.ntmps6
  go_wp2
  go_ret
  exact ⟨rfl, (Below.refl _ _).alloc (Nat.le_refl _) _⟩
theorem check_four (x : Int) (w : World) (h1 : 1 ≤ x) (h2 : x ≤ 24) :
    Calls Yba.prog 6 #[.agg #[.string ⟨#[102, 108, 111, 97, 116, 52]⟩, .slice none 0 0, .bool false, .pointer none], .bool true, .int .i64 x] w fun e w' => e = .returned (.bool true) ∧ Below w.heap.size w w' := by
  have hq := neqNil
  have h3 : ¬ 53 < x := by omega
  go_enter Yba.func6, Yba.ntmps6
  go_wp2
  go_ret
  exact ⟨rfl, (Below.refl _ _).alloc (Nat.le_refl _) _⟩
theorem check_eight (x : Int) (w : World) (h1 : 24 < x) (h2 : x ≤ 53) :
    Calls Yba.prog 6 #[.agg #[.string ⟨#[102, 108, 111, 97, 116, 56]⟩, .slice none 0 0, .bool false, .pointer none], .bool true, .int .i64 x] w fun e w' => e = .returned (.bool true) ∧ Below w.heap.size w w' := by
  have hq := neqNil
  go_enter Yba.func6, Yba.ntmps6
  go_wp2
  go_ret
  exact ⟨rfl, (Below.refl _ _).alloc (Nat.le_refl _) _⟩
theorem check_bad (x : Int) (p : Nat) (w : World) (h : x < 1 ∨ 53 < x) (hp : p < w.heap.size) (c1 : w.cell? ⟨p, 1, none⟩ = some (.string ⟨#[50, 50, 48, 50, 51]⟩)) (c2 : w.cell? ⟨p, 2, none⟩ = some (.string ⟨#[]⟩)) :
    Calls Yba.prog 6 #[.agg #[.string ⟨#[]⟩, .slice none 0 0, .bool false, .pointer (some ⟨p, 0, none⟩)], .bool true, .int .i64 x] w fun e w' => e = .returned (.bool true) ∧ Below w.heap.size w w' := by
  have hq := neqNil
  rcases h with h | h
  · go_enter Yba.func6, Yba.ntmps6
    go_wp2
    go_ret
    exact ⟨rfl, (Below.refl _ _).alloc (Nat.le_refl _) _⟩
  · have h1 : 1 ≤ x := by omega
    go_enter Yba.func6, Yba.ntmps6
    go_wp2
    go_ret
    exact ⟨rfl, (Below.refl _ _).alloc (Nat.le_refl _) _⟩
end Go.Proofs.Ybulkbmka
