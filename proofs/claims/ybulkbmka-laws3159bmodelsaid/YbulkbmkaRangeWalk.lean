/-
  THE WALK OF LawS3159BRange.
-/
import Derived.Test.YbulkbmkaFloat
import Derived.ProofKit
import Derived.OpenShut
import Derived.ShutString
import Derived.ChangeOld
namespace Go.Proofs.Ybulkbmka
open Go.RowKit

theorem info3 : (Yba.prog.info? 3).map (fun i => (i.zero, i.size, i.bytes)) = some (some (.int .i64 0), 1, 8) := by kernel_rfl

/-- 'make([]T, 1, 1+n)', n A VARIABLE, an element of one cell: one zero element is owned, n more have room. -/
theorem wpList_make_one {P : Program} (w : World) {ops : Array Oper} {rest : List Oper} {o : Oper} {a : Act} {Q : Exit → Act → World → Prop}
    (hg : o.guard = none) (l c : Operand) (t : TypeId) (hop : o.op = Op.makeSlice t l c)
    (base : Nat) (e : TypeId) (i : TypeInfo) (z : Value) (h1 : P.underlying t = some (.slice e)) (h2 : P.info? e = some i) (h3 : i.zero = some z) (h4 : i.size = 1) (hzc : z.cells = #[z])
    (kl kc : IntKind) (C : Int) (n : Nat) (hl : a.eval l = .int kl 1) (hc : a.eval c = .int kc C) (hC : C = 1 + (n : Int)) (b2 : i.bytes * (1 + n) ≤ 281474976710656) (b3 : 1 + n ≤ maxLen) (b4 : base ≤ w.heap.size)
    (hK : ∀ w', w'.ownsRow base e 1 (.slice (some ⟨w.heap.size, 0, none⟩) 1 (1 + n)) 1 [z] → w.grownBy w' none → wpList P ops Q rest (a.put o.dst (.slice (some ⟨w.heap.size, 0, none⟩) 1 (1 + n))) w') :
    wpList P ops Q (o :: rest) a w := by
  refine wpList_plain hg fun K hK' => ?_
  have hb' : (i.bytes : Int) * C ≤ 281474976710656 := by
    have h : ((i.bytes * (1 + n) : Nat) : Int) ≤ 281474976710656 := by omega
    rw [Int.natCast_mul, Int.natCast_add] at h
    rw [hC]
    exact h
  have h63 : C ≤ 9223372036854775807 := by unfold maxLen at b3; omega
  have hr := run_make (P := P) w t e i z h1 h2 h3 kl kc 1 C (by decide) (by omega) hb' h63
  have e1 : (1 : Int).toNat = 1 := rfl
  have e2 : C.toNat = 1 + n := by omega
  rw [e1, e2, h4, Nat.mul_one, hzc] at hr
  have r1 : (w.alloc (.cells (madeCells #[z] (1 + n)) e)).ownsRow base e 1 (.slice (some ⟨w.heap.size, 0, none⟩) 1 (1 + n)) 1 [z] := by
    refine ⟨rfl, .inr ⟨w.heap.size, 1 + n, madeCells #[z] (1 + n), rfl, b4, (by show (w.heap.push _)[w.heap.size]? = _; simp), by omega, b3, by rw [size_madeCells, Nat.mul_one], ?_⟩⟩
    rw [Nat.mul_one]
    apply List.ext_getElem?
    intro j
    cases j with
    | zero => simp [madeCells]
    | succ j => simp; omega
  unfold Oper.wp
  simp [execOp, hop, hl, hc, hr, Result.andThen]
  exact hK' _ _ (hK _ r1 (World.grownBy_alloc w _ none))

theorem owns_one {w : World} {base g n cap : Nat} {e : TypeId} {v : Value} {xs : List Value} (h : w.ownsRow base e 1 (.slice (some ⟨g, 0, none⟩) n cap) n (v :: xs)) : w.cell? ⟨g, 0, none⟩ = some v ∧ w.frozen? ⟨g, 0, none⟩ = false ∧ base ≤ g ∧ g < w.heap.size := by
  obtain ⟨hlen, h⟩ := h
  rcases h with ⟨h, _⟩ | ⟨g', cap', cur, hv, hb, hcur, _, _, _, htake⟩
  · cases h
  · cases hv
    have hn : 0 < n * 1 := by rw [← hlen]; simp
    have e1 : (cur.toList.take (n * 1))[0]? = some v := by rw [htake]; rfl
    rw [List.getElem?_take_of_lt hn] at e1
    refine ⟨?_, ?_, hb, ?_⟩
    · simp [World.cell?, hcur]; simpa using e1
    · simp [World.frozen?, hcur]
    · exact (Array.getElem?_eq_some_iff.1 hcur).1

/-- What the walk is told of a slice of integers that came in: it is nil; or it leads to a row of 'cap' cells, the numbers 'zs' (the first 'len' are its elements, the rest its spare room), each fitting its kind. -/
def IsRow (k : IntKind) (w : World) (a : Option Addr) (len cap : Nat) (zs : List Int) : Prop :=
  (a = none ∧ len = 0 ∧ cap = 0 ∧ zs = []) ∨
  ∃ x, a = some x ∧ len ≤ cap ∧ cap ≤ maxLen ∧ zs.length = cap ∧ (∀ i, i < zs.length → w.cell? (x.add i) = some (.int k (zs.getD i 0))) ∧ ∀ n ∈ zs, (Lit.int k n).wf = true

theorem cell_lt {w : World} {a : Addr} {v : Value} (h : w.cell? a = some v) : a.block < w.heap.size := by
  apply Classical.byContradiction
  intro hn
  have e : w.heap[a.block]? = none := Array.getElem?_eq_none (by omega)
  simp [World.cell?, e] at h

/-- The elements that an append of such a slice reads, in a later world. -/
theorem row_news {k : IntKind} {w w1 : World} {a : Option Addr} {len cap : Nat} {zs : List Int} (h : IsRow k w a len cap zs) (hb : Below w.heap.size w w1) :
    ((zs.take len).map (Value.int k)).length = len * 1 ∧ (a = none → len = 0 ∧ cap = 0) ∧ ∀ ad, a = some ad → ∀ j u, ((zs.take len).map (Value.int k))[j]? = some u → w1.cell? (ad.add j) = some u := by
  rcases h with ⟨rfl, rfl, rfl, rfl⟩ | ⟨x, rfl, hlc, hcm, hzl, hcell, hwz⟩
  · exact ⟨by simp, fun _ => ⟨rfl, rfl⟩, fun ad h => (by cases h)⟩
  · refine ⟨by simp; omega, fun h => (by cases h), fun ad h j u hj => ?_⟩
    cases h
    rw [List.getElem?_map] at hj
    obtain ⟨z, hz, rfl⟩ := Option.map_eq_some_iff.1 hj
    have hlt : j < len := by
      have := (List.getElem?_eq_some_iff.1 hz).1
      rw [List.length_take] at this
      omega
    rw [List.getElem?_take_of_lt hlt] at hz
    have hc := hcell j (by omega)
    have e : zs.getD j 0 = z := by simp [List.getD, hz]
    rw [e] at hc
    rw [hb.cell (cell_lt hc)]
    exact hc
theorem ints_oneCell (k : IntKind) (zs : List Int) : ∀ u ∈ zs.map (Value.int k), u.oneCell' = true := by
  intro u hu
  obtain ⟨c, _, rfl⟩ := List.mem_map.1 hu
  rfl

/-- the first cell of the slice that the law has made -/
def Carries (w : World) (x : Int) (wr : World) : Prop := wr.cell? ⟨w.heap.size, 0, none⟩ = some (.int .i64 x) ∧ w.heap.size < wr.heap.size ∧ Below w.heap.size w wr
theorem Carries.later {w : World} {x : Int} {wr w1 : World} (h : Carries w x wr) (hb : Below wr.heap.size wr w1) : Carries w x w1 := by
  obtain ⟨h1, h2, h3⟩ := h
  have hs := hb.size
  exact ⟨by rw [hb.cell (by exact h2)]; exact h1, by omega, h3.trans (hb.mono (by omega))⟩

namespace lawS3159BRange
theorem walk_big (b : Int) (a : Option Addr) (len cap : Nat) (w : World) (hl : len ≤ maxLen) (h : 1024 < len) :
    Calls Yba.prog 4 #[.int .u8 b, .slice a len cap] w fun e w' => e = .returned (.bool true) ∧ Below w.heap.size w w' := by
  unfold maxLen at hl
  go_enter Yba.func4, Yba.ntmps4
  go_wp2
  go_ret
  exact ⟨rfl, Below.refl _ _⟩

set_option maxHeartbeats 400000 in
theorem walk_in (b : Int) (a : Option Addr) (len cap : Nat) (zs : List Int) (w : World) (b0 : 0 ≤ b) (b1 : b ≤ 255) (hl : len ≤ 1024) (hr : IsRow .i64 w a len cap zs) :
    Calls Yba.prog 4 #[.int .u8 b, .slice a len cap] w fun e w' => e = .returned (.bool true) ∧ Below w.heap.size w w' := by
  obtain ⟨i0, hi, hz0, hz1, hz2⟩ := info_parts info3
  go_enter Yba.func4, Yba.ntmps4
  go_wp2_with (first
    | (at_make; refine wpList_make_one _ rfl _ _ 22 rfl w.heap.size 3 i0 (.int .i64 0) Yba.underlying22 hi hz0 hz1 rfl _ _ _ len rfl rfl (by omega) (by rw [hz2]; omega) (by unfold maxLen; omega) (Nat.le_refl _) ?_; intro w1 hown1 hgrow1; obtain ⟨hc0, hf0, _, hlt1⟩ := owns_one hown1; have hB1 : Below w.heap.size w w1 := (Below.refl _ _).grown hgrow1 (Nat.le_refl _) (fun k h => by cases h))
    | (at_builtin; refine wpList_append_fits_any _ rfl (.tmp 22) (.tmp 23) 22 rfl w.heap.size 3 i0 1 Yba.underlying22 hi hz1 w.heap.size 1 (1 + len) [.int .i64 (b % 70 - 5)] rfl (hown1.stored 0 _).1 a len cap ((zs.take len).map (Value.int .i64)) rfl (row_news hr (hB1.setCell (p := ⟨w.heap.size, 0, none⟩) (Nat.le_refl _) (.int .i64 (b % 70 - 5)))).1 (row_news hr (hB1.setCell (p := ⟨w.heap.size, 0, none⟩) (Nat.le_refl _) (.int .i64 (b % 70 - 5)))).2.1 (row_news hr (hB1.setCell (p := ⟨w.heap.size, 0, none⟩) (Nat.le_refl _) (.int .i64 (b % 70 - 5)))).2.2 (ints_oneCell _ _) (by omega) ?_; intro w2 hown2 hgrow2; obtain ⟨hc2, _, _, hlt2⟩ := owns_one hown2; have hB2 : Below w.heap.size w w2 := (hB1.setCell (p := ⟨w.heap.size, 0, none⟩) (Nat.le_refl _) (.int .i64 (b % 70 - 5))).grown hgrow2 (by simpa [World.setCell] using hB1.size) (fun k hk => by cases hk; exact Nat.le_refl _); clear hown1 hgrow1 hc0 hf0 hlt1 hown2 hgrow2 hB1 hr)
    | fail)
  generalize b % 70 - 5 = x at *
  clear hi hz0 hz1 hz2
  by_cases hbad : x < 1 ∨ 53 < x
  · skip
    refine (float_bad w.heap.size 0 (1 + len) (1 + len) x w2 (by omega) hlt2 hc2 hbad).mono ?_
    rintro e w3 ⟨rfl, d1, d2, hsz3, hb3⟩
    obtain ⟨hc3, hlt3, hB3⟩ := Carries.later ⟨hc2, hlt2, hB2⟩ hb3
    clear hc2 hlt2 hB2
    go_wp2_with fail
    refine (check_bad x (w2.heap.size + 1) _ hbad (by simp; omega) (by rw [World.cell?_alloc_lt _ _ _ (by show w2.heap.size + 1 < _; omega)]; exact d1) (by rw [World.cell?_alloc_lt _ _ _ (by show w2.heap.size + 1 < _; omega)]; exact d2)).mono ?_
    rintro e w4 ⟨rfl, hb4⟩
    obtain ⟨hc4, hlt4, hB4⟩ := Carries.later (Carries.later ⟨hc3, hlt3, hB3⟩ ((Below.refl _ _).alloc (Nat.le_refl _) _)) hb4
    clear hc3 hlt3 hB3 hb3 hb4
    go_wp2
    go_ret
    exact ⟨rfl, hB4⟩
  by_cases h2 : x ≤ 24
  · have h1 : 1 ≤ x := by omega
    refine (float_four w.heap.size 0 (1 + len) (1 + len) x w2 (by omega) hlt2 hc2 h1 h2).mono ?_
    rintro e w3 ⟨rfl, hb3⟩
    obtain ⟨hc3, hlt3, hB3⟩ := Carries.later ⟨hc2, hlt2, hB2⟩ hb3
    clear hc2 hlt2 hB2
    go_wp2_with fail
    refine (check_four x _ h1 h2).mono ?_
    rintro e w4 ⟨rfl, hb4⟩
    obtain ⟨hc4, hlt4, hB4⟩ := Carries.later (Carries.later ⟨hc3, hlt3, hB3⟩ ((Below.refl _ _).alloc (Nat.le_refl _) _)) hb4
    clear hc3 hlt3 hB3 hb3 hb4
    go_wp2
    go_ret
    exact ⟨rfl, hB4⟩
  · have h1 : 24 < x := by omega
    have h3 : x ≤ 53 := by omega
    refine (float_eight w.heap.size 0 (1 + len) (1 + len) x w2 (by omega) hlt2 hc2 h1 h3).mono ?_
    rintro e w3 ⟨rfl, hb3⟩
    obtain ⟨hc3, hlt3, hB3⟩ := Carries.later ⟨hc2, hlt2, hB2⟩ hb3
    clear hc2 hlt2 hB2
    go_wp2_with fail
    refine (check_eight x _ h1 h3).mono ?_
    rintro e w4 ⟨rfl, hb4⟩
    obtain ⟨hc4, hlt4, hB4⟩ := Carries.later (Carries.later ⟨hc3, hlt3, hB3⟩ ((Below.refl _ _).alloc (Nat.le_refl _) _)) hb4
    clear hc3 hlt3 hB3 hb3 hb4
    go_wp2
    go_ret
    exact ⟨rfl, hB4⟩

theorem walk (a0 : Int) (a1 : Option Addr) (len1 cap1 : Nat) (z1 : List Int) (w : World) (w0 : (Lit.int .u8 a0).wf = true) (w1 : IsRow .i64 w a1 len1 cap1 z1) :
    Calls Yba.prog 4 #[.int .u8 a0, .slice a1 len1 cap1] w fun e w' => e = .returned (.bool true) ∧ Below w.heap.size w w' := by
  simp [Lit.wf, IntKind.min, IntKind.max, IntKind.signed, IntKind.bits] at w0
  by_cases h : 1024 < len1
  · refine walk_big a0 a1 len1 cap1 w ?_ h
    rcases w1 with ⟨_, h, _⟩ | ⟨x, _, hlc, hcm, _⟩
    · omega
    · omega
  · exact walk_in a0 a1 len1 cap1 z1 w (by omega) (by omega) (by omega) w1
end lawS3159BRange
end Go.Proofs.Ybulkbmka
