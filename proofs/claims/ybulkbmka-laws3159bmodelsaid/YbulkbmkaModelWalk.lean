/-
  THE WALK OF LawS3159BModel.
-/
import Derived.Test.YbulkbmkaRangeWalk
import Derived.Laws.CopyOwn
import Derived.RegionTactic
import Derived.Deep.QuietTactic
import Derived.BigQuiet
namespace Go.Proofs.Ybulkbmka
open Go.RowKit

/-- the row behind 'make([]int, n)', whole -/
theorem owns_whole {w : World} {base g n : Nat} {e : TypeId} {xs : List Value} (h : w.ownsRow base e 1 (.slice (some ⟨g, 0, none⟩) n n) n xs) : ∃ cur : List Value, w.heap[g]? = some (.cells cur.toArray e (0, 0)) ∧ cur.length = n := by
  obtain ⟨hlen, h⟩ := h
  rcases h with ⟨h, _⟩ | ⟨g', cap', cur, hv, hb, hcur, _, _, hsz, htake⟩
  · cases h
  · cases hv
    exact ⟨cur.toList, by simpa using hcur, by simpa using hsz⟩

/-- the row behind the copy -/
theorem copied {w : World} {g n : Nat} {e : TypeId} {cur : List Value} {zs : List Int} (hz : n ≤ zs.length) (hl : cur.length = n)
    (h : w.heap[g]? = some (.cells (splice cur 0 ((zs.take n).map (Value.int .i64))).toArray e (0, 0))) : ∀ j, j < n → w.cell? ⟨g, j, none⟩ = some (.int .i64 (zs.getD j 0)) := by
  intro j hj
  have hlen : ((zs.take n).map (Value.int .i64)).length = n := by simp; omega
  have e1 : splice cur 0 ((zs.take n).map (Value.int .i64)) = (zs.take n).map (Value.int .i64) := by
    unfold splice
    rw [List.take_zero, List.nil_append, hlen, List.drop_of_length_le (by omega), List.append_nil]
  rw [e1] at h
  have hj' : j < zs.length := by omega
  have e2 : ((zs.take n).map (Value.int .i64))[j]? = some (.int .i64 (zs.getD j 0)) := by
    rw [List.getElem?_map, List.getElem?_take_of_lt hj, List.getElem?_eq_getElem hj']
    simp [List.getD, hj']
  have e3 : w.cell? ⟨g, j, none⟩ = ((zs.take n).map (Value.int .i64)).toArray[j]? := by
    unfold World.cell?
    rw [h]
    rfl
  rw [e3, List.getElem?_toArray]
  exact e2

/-- what the law keeps: the copy in its own row, the slice that came in -/
def Same (w : World) (b off n : Nat) (zs : List Int) (wr : World) : Prop :=
  (∀ j, j < n → wr.cell? ⟨w.heap.size, j, none⟩ = some (.int .i64 (zs.getD j 0))) ∧ (∀ j, j < n → wr.cell? ⟨b, off + j, none⟩ = some (.int .i64 (zs.getD j 0))) ∧ w.heap.size < wr.heap.size ∧ Below w.heap.size w wr
theorem Same.later {w : World} {b off n : Nat} {zs : List Int} {wr w1 : World} (h : Same w b off n zs wr) (hbw : b < w.heap.size) (hb : Below wr.heap.size wr w1) : Same w b off n zs w1 := by
  obtain ⟨h1, h2, h3, h4⟩ := h
  have hs := hb.size
  refine ⟨fun j hj => ?_, fun j hj => ?_, by omega, h4.trans (hb.mono (by omega))⟩
  · rw [hb.cell (by exact h3)]; exact h1 j hj
  · rw [hb.cell (by show b < _; omega)]; exact h2 j hj

theorem Same.drewN {w : World} {b off n : Nat} {zs : List Int} {wr : World} (h : Same w b off n zs wr) (k : Nat) : Same w b off n zs (wr.drewN k) := by
  obtain ⟨h1, h2, h3, h4⟩ := h
  exact ⟨fun j hj => by simpa using h1 j hj, fun j hj => by simpa using h2 j hj, h3, ⟨h4.os, h4.tape, h4.output, h4.size, h4.block⟩⟩

theorem size3 : (Yba.prog.info? 3).map (·.size) = some 1 := by kernel_rfl

/-- the cells of the slice that came in, in a later world -/
theorem came {w w1 : World} {b off n : Nat} {zs : List Int} (hc : ∀ j, j < n → w.cell? ⟨b, off + j, none⟩ = some (.int .i64 (zs.getD j 0))) (hb : b < w.heap.size) (hB : Below w.heap.size w w1) :
    ∀ j v, ((zs.take n).map (Value.int .i64))[j]? = some v → w1.cell? ((⟨b, off, none⟩ : Addr).add j) = some v := by
  intro j v hj
  rw [List.getElem?_map] at hj
  obtain ⟨z, hz, rfl⟩ := Option.map_eq_some_iff.1 hj
  have hlt : j < n := by
    have := (List.getElem?_eq_some_iff.1 hz).1
    rw [List.length_take] at this
    omega
  rw [List.getElem?_take_of_lt hlt] at hz
  rw [Go.WideShapes.add_plain, hB.cell (by exact hb), hc j hlt]
  simp [List.getD, hz]

/-- 'copy(m, mods)': the run of it, m's row the call's own -/
theorem copy_run {w w1 : World} {b off n cap : Nat} {cur : List Value} {zs : List Int} (hz : n ≤ zs.length) (hb : b < w.heap.size) (hc : ∀ j, j < n → w.cell? ⟨b, off + j, none⟩ = some (.int .i64 (zs.getD j 0)))
    (hcur : w1.heap[w.heap.size]? = some (.cells cur.toArray 3 (0, 0))) (hl : cur.length = n) (hB : Below w.heap.size w w1) :
    ∃ w2, (Builtin.copy_ #[22, 22] 3 #[.slice (some ⟨w.heap.size, 0, none⟩) n n, .slice (some ⟨b, off, none⟩) n cap]).run Yba.prog w1 = .ok (.int .i64 (n : Int)) w2 ∧ Same w b off n zs w2 := by
  have hlen : ((zs.take n).map (Value.int .i64)).length = n := by simp; omega
  have hr := run_copy_row (P := Yba.prog) w1 22 22 3 3 w.heap.size 0 n n ⟨b, off, none⟩ n cap cur.toArray 3 ((zs.take n).map (Value.int .i64)) Yba.underlying22 size3 hcur (by rw [hlen]; exact (Nat.min_self n).symm) (came hc hb hB) (by rw [hlen]; simp; omega) (ints_oneCell _ _)
  rw [hlen, List.append_assoc] at hr
  refine ⟨_, hr, ?_⟩
  have hB2 := below_setRow hB (Nat.le_refl w.heap.size) (cur.toArray.toList.take 0 ++ ((zs.take n).map (Value.int .i64) ++ cur.toArray.toList.drop (0 + n))).toArray
  have hg := setRow_heap w1 w.heap.size cur.toArray (cur.toArray.toList.take 0 ++ ((zs.take n).map (Value.int .i64) ++ cur.toArray.toList.drop (0 + n))).toArray 3 _ hcur
  refine ⟨copied (e := 3) hz hl ?_, fun j hj => (hB2.cell (by exact hb)).trans (hc j hj), (Array.getElem?_eq_some_iff.1 hg).1, hB2⟩
  rw [hg]
  unfold splice
  rw [hlen]

namespace lawS3159BModel
theorem walk_big (a : Option Addr) (len cap : Nat) (w : World) (hl : len ≤ maxLen) (h : 1024 < len) :
    Calls Yba.prog 3 #[.slice a len cap] w fun e w' => e = .returned (.bool true) ∧ Below w.heap.size w w' := by
  unfold maxLen at hl
  go_enter Yba.func3, Yba.ntmps3
  go_wp2
  go_ret
  exact ⟨rfl, Below.refl _ _⟩

set_option maxHeartbeats 400000 in
theorem walk_none (a : Option Addr) (cap : Nat) (w : World) :
    Calls Yba.prog 3 #[.slice a 0 cap] w fun e w' => e = .returned (.bool true) ∧ Below w.heap.size w w' := by
  go_enter Yba.func3, Yba.ntmps3
  go_wp2_with fail
  refine (float_nil _).mono ?_
  rintro e w1 ⟨rfl, hb1⟩
  go_wp2_with fail
  refine (check_nil _ _).mono ?_
  rintro e w2 ⟨rfl, hb2⟩
  have hs1 := hb1.size
  have hs2 := hb2.size
  have hB : Below w.heap.size w w2 := (hb1.alloc hs1 _).trans (hb2.mono (by simp; omega))
  clear hb1 hb2 hs1 hs2
  go_wp2
  go_loop [7] (fun i => i = .int .i64 0) (fun i => 0 - (intOf i).toNat)
  case atStart => rfl
  case round =>
    subst hrel
    go_wp2
    go_ret
    exact ⟨rfl, hB⟩

set_option maxHeartbeats 400000 in
theorem walk_some (b off len cap : Nat) (zs : List Int) (w : World) (h0 : 0 < len) (hl : len ≤ 1024) (hz : len ≤ zs.length) (hb : b < w.heap.size) (hc : ∀ j, j < len → w.cell? ⟨b, off + j, none⟩ = some (.int .i64 (zs.getD j 0))) :
    Calls Yba.prog 3 #[.slice (some ⟨b, off, none⟩) len cap] w fun e w' => e = .returned (.bool true) ∧ Below w.heap.size w w' := by
  obtain ⟨i0, hi, hz0, hz1, hz2⟩ := info_parts info3
  have HC : Hid (∀ j, j < len → w.cell? ⟨b, off + j, none⟩ = some (.int .i64 (zs.getD j 0))) := hc
  clear hc
  go_enter Yba.func3, Yba.ntmps3
  go_wp2_with (first
    | (at_make; refine wpList_make_full _ rfl _ _ 22 rfl w.heap.size 3 i0 (.int .i64 0) 1 Yba.underlying22 hi hz0 hz1 _ _ _ _ len rfl rfl rfl rfl (by rw [hz2]; omega) (by unfold maxLen; omega) (Nat.le_refl _) ?_; intro w1 hown1 hgrow1; obtain ⟨cur, hcur, hcl⟩ := owns_whole hown1; have hB1 : Below w.heap.size w w1 := (Below.refl _ _).grown hgrow1 (Nat.le_refl _) (fun k h => by cases h); obtain ⟨w2, hcp, hS⟩ := copy_run (cap := cap) hz hb HC.out hcur hcl hB1; have HS2 : Hid (Same w b off len zs w2) := hS; clear hown1 hgrow1 hS hcur hcl hB1)
    | fail)
  have hc2 := HS2.out.1 0 h0
  have hlt2 := HS2.out.2.2.1
  obtain ⟨x, hx⟩ : ∃ x, zs.getD 0 0 = x := ⟨_, rfl⟩
  rw [hx] at hc2
  have HX : Hid (zs.getD 0 0 = x) := hx
  clear hx hi hz0 hz1 hz2
  by_cases hbad : x < 1 ∨ 53 < x
  · skip
    refine (float_bad w.heap.size 0 len len x w2 h0 hlt2 hc2 hbad).mono ?_
    rintro e w3 ⟨rfl, d1, d2, hsz3, hb3⟩
    have HS3 : Hid (Same w b off len zs w3) := HS2.out.later hb hb3
    have hc3 := HX.out ▸ HS3.out.1 0 h0
    have hlt3 := HS3.out.2.2.1
    clear hc2 hlt2 HS2 hcp
    go_wp2_with fail
    refine (check_bad x (w2.heap.size + 1) _ hbad (by simp; omega) (by rw [World.cell?_alloc_lt _ _ _ (by show w2.heap.size + 1 < _; omega)]; exact d1) (by rw [World.cell?_alloc_lt _ _ _ (by show w2.heap.size + 1 < _; omega)]; exact d2)).mono ?_
    rintro e w4 ⟨rfl, hb4⟩
    have HS4 : Hid (Same w b off len zs w4) := (HS3.out.later hb ((Below.refl _ _).alloc (Nat.le_refl _) _)).later hb hb4
    clear hc3 hlt3 hb3 hb4 HS3
    go_wp2
    go_loopw [7] (fun i wr => ∃ k : Nat, k ≤ len ∧ i = .int .i64 k ∧ Same w b off len zs wr) (fun i _ => len - (intOf i).toNat)
    case atStart => exact ⟨0, Nat.zero_le _, rfl, HS4.out⟩
    case round =>
      obtain ⟨k, hk, rfl, hS⟩ := hrel
      have HS : Hid (Same w b off len zs wr) := hS
      clear hS HS4
      by_cases hlt : k < len
      · have q1 := HS.out.1 k hlt
        have q2 := HS.out.2.1 k hlt
        generalize zs.getD k 0 = y at q1 q2
        go_wp2
        go_quiet (fail)
        go_wp2
        go_roundw
        case rel => exact ⟨k + 1, by omega, by go_num, HS.out.drewN _⟩
        case measure => simp [intOf]; omega
      · go_wp2
        go_ret
        exact ⟨rfl, HS.out.2.2.2⟩
  by_cases h2 : x ≤ 24
  · have h1 : 1 ≤ x := by omega
    refine (float_four w.heap.size 0 len len x w2 h0 hlt2 hc2 h1 h2).mono ?_
    rintro e w3 ⟨rfl, hb3⟩
    have HS3 : Hid (Same w b off len zs w3) := HS2.out.later hb hb3
    have hc3 := HX.out ▸ HS3.out.1 0 h0
    have hlt3 := HS3.out.2.2.1
    clear hc2 hlt2 HS2 hcp
    go_wp2_with fail
    refine (check_four x _ h1 h2).mono ?_
    rintro e w4 ⟨rfl, hb4⟩
    have HS4 : Hid (Same w b off len zs w4) := (HS3.out.later hb ((Below.refl _ _).alloc (Nat.le_refl _) _)).later hb hb4
    clear hc3 hlt3 hb3 hb4 HS3
    go_wp2
    go_loopw [7] (fun i wr => ∃ k : Nat, k ≤ len ∧ i = .int .i64 k ∧ Same w b off len zs wr) (fun i _ => len - (intOf i).toNat)
    case atStart => exact ⟨0, Nat.zero_le _, rfl, HS4.out⟩
    case round =>
      obtain ⟨k, hk, rfl, hS⟩ := hrel
      have HS : Hid (Same w b off len zs wr) := hS
      clear hS HS4
      by_cases hlt : k < len
      · have q1 := HS.out.1 k hlt
        have q2 := HS.out.2.1 k hlt
        generalize zs.getD k 0 = y at q1 q2
        go_wp2
        go_quiet (fail)
        go_wp2
        go_roundw
        case rel => exact ⟨k + 1, by omega, by go_num, HS.out.drewN _⟩
        case measure => simp [intOf]; omega
      · go_wp2
        go_ret
        exact ⟨rfl, HS.out.2.2.2⟩
  · have h1 : 24 < x := by omega
    have h3 : x ≤ 53 := by omega
    refine (float_eight w.heap.size 0 len len x w2 h0 hlt2 hc2 h1 h3).mono ?_
    rintro e w3 ⟨rfl, hb3⟩
    have HS3 : Hid (Same w b off len zs w3) := HS2.out.later hb hb3
    have hc3 := HX.out ▸ HS3.out.1 0 h0
    have hlt3 := HS3.out.2.2.1
    clear hc2 hlt2 HS2 hcp
    go_wp2_with fail
    refine (check_eight x _ h1 h3).mono ?_
    rintro e w4 ⟨rfl, hb4⟩
    have HS4 : Hid (Same w b off len zs w4) := (HS3.out.later hb ((Below.refl _ _).alloc (Nat.le_refl _) _)).later hb hb4
    clear hc3 hlt3 hb3 hb4 HS3
    go_wp2
    go_loopw [7] (fun i wr => ∃ k : Nat, k ≤ len ∧ i = .int .i64 k ∧ Same w b off len zs wr) (fun i _ => len - (intOf i).toNat)
    case atStart => exact ⟨0, Nat.zero_le _, rfl, HS4.out⟩
    case round =>
      obtain ⟨k, hk, rfl, hS⟩ := hrel
      have HS : Hid (Same w b off len zs wr) := hS
      clear hS HS4
      by_cases hlt : k < len
      · have q1 := HS.out.1 k hlt
        have q2 := HS.out.2.1 k hlt
        generalize zs.getD k 0 = y at q1 q2
        go_wp2
        go_quiet (fail)
        go_wp2
        go_roundw
        case rel => exact ⟨k + 1, by omega, by go_num, HS.out.drewN _⟩
        case measure => simp [intOf]; omega
      · go_wp2
        go_ret
        exact ⟨rfl, HS.out.2.2.2⟩

theorem walk (a0 : Option Addr) (len0 cap0 : Nat) (z0 : List Int) (w : World) (w0 : IsRow .i64 w a0 len0 cap0 z0) :
    Calls Yba.prog 3 #[.slice a0 len0 cap0] w fun e w' => e = .returned (.bool true) ∧ Below w.heap.size w w' := by
  by_cases hbig : 1024 < len0
  · refine walk_big a0 len0 cap0 w ?_ hbig
    rcases w0 with ⟨_, h, _⟩ | ⟨x, _, hlc, hcm, _⟩
    · omega
    · omega
  rcases w0 with ⟨rfl, rfl, rfl, rfl⟩ | ⟨x, rfl, hlc, hcm, hzl, hcell, hwz⟩
  · exact walk_none none 0 w
  · by_cases h0 : 0 < len0
    · obtain ⟨b, off, rfl, hc⟩ := ints_at hcell (by omega)
      have hb : b < w.heap.size := cell_lt (hc 0 (by omega))
      exact walk_some b off len0 cap0 z0 w h0 (by omega) (by omega) hb (fun j hj => hc j (by omega))
    · have hl0 : len0 = 0 := by omega
      subst hl0
      exact walk_none (some x) cap0 w
end lawS3159BModel
end Go.Proofs.Ybulkbmka
