/-
  THE WALK OF ParseInt.
-/
import Derived.Test.YbulkbmhwMagnitude
import Derived.Test.YbulkbmhwDecimal
import Derived.Lib.Strings
namespace Go.Proofs.Ybulkbmhw
open Go.RowKit

/-- what ParseInt hands back -/
def parsed : Option Int → Value
  | some v => .tuple #[.agg #[.int .i64 (hi64 v), .int .u64 (lo64 v)], .bool true]
  | none => .tuple #[.agg #[.int .i64 0, .int .u64 0], .bool false]

/-- what holds of the two variables that ParseInt keeps in memory -/
def Keeps (w : World) (n : Int) (wr : World) : Prop :=
  wr.cell? ⟨w.heap.size + 1, 0, none⟩ = some (.int .u64 (hi64 n)) ∧ wr.cell? ⟨w.heap.size + 1, 1, none⟩ = some (.int .u64 (lo64 n)) ∧
  wr.frozen? ⟨w.heap.size + 1, 0, none⟩ = false ∧ wr.frozen? ⟨w.heap.size + 1, 1, none⟩ = false ∧
  wr.cell? ⟨w.heap.size, 0, none⟩ = some (.int .i64 0) ∧ wr.cell? ⟨w.heap.size, 1, none⟩ = some (.int .u64 0) ∧
  wr.frozen? ⟨w.heap.size, 0, none⟩ = false ∧ wr.frozen? ⟨w.heap.size, 1, none⟩ = false ∧
  w.heap.size + 2 ≤ wr.heap.size ∧ Below w.heap.size w wr

theorem Keeps.later {w : World} {n : Int} {wr w1 : World} (h : Keeps w n wr) (hb : Below wr.heap.size wr w1) : Keeps w n w1 := by
  obtain ⟨c1, c2, f1, f2, c3, c4, f3, f4, hz, hB⟩ := h
  have hs := hb.size
  refine ⟨?_, ?_, ?_, ?_, ?_, ?_, ?_, ?_, by omega, hB.trans (hb.mono (by omega))⟩
  · rw [hb.cell (by show w.heap.size + 1 < _; omega)]; exact c1
  · rw [hb.cell (by show w.heap.size + 1 < _; omega)]; exact c2
  · rw [hb.frozen (by show w.heap.size + 1 < _; omega)]; exact f1
  · rw [hb.frozen (by show w.heap.size + 1 < _; omega)]; exact f2
  · rw [hb.cell (by show w.heap.size < _; omega)]; exact c3
  · rw [hb.cell (by show w.heap.size < _; omega)]; exact c4
  · rw [hb.frozen (by show w.heap.size < _; omega)]; exact f3
  · rw [hb.frozen (by show w.heap.size < _; omega)]; exact f4

theorem Keeps.two {w : World} {n : Int} {wr : World} (h : Keeps w n wr) (b1 b2 : Array Value) : Keeps w n ((wr.alloc (.cells b1 56)).alloc (.cells b2 56)) :=
  h.later (((Below.refl _ _).alloc (Nat.le_refl _) _).alloc (by simp) _)

theorem Keeps.store {w : World} {n m : Int} {wr : World} (h : Keeps w n wr) :
    Keeps w m ((wr.setCell ⟨w.heap.size + 1, 0, none⟩ (.int .u64 (hi64 m))).setCell ⟨w.heap.size + 1, 1, none⟩ (.int .u64 (lo64 m))) := by
  obtain ⟨c1, c2, f1, f2, c3, c4, f3, f4, hz, hB⟩ := h
  refine ⟨?_, ?_, ?_, ?_, ?_, ?_, ?_, ?_, by simpa [World.setCell] using hz, (hB.setCell (by simp) _).setCell (by simp) _⟩ <;> go_simp

theorem hi64_lt (n : Int) (h : n < 340282366920938463463374607431768211456) : hi64 n < 18446744073709551616 := by unfold hi64; omega
theorem next_step (n : Int) (c : UInt8) : nextV (hi64 n) (lo64 n) ((c.toNat : Int) - 48) = stepV n c := by
  unfold nextV hi64 lo64 stepV; omega

theorem keeps_start (w : World) : Keeps w 0 ((w.alloc (.cells #[.int .i64 0, .int .u64 0] 29)).alloc (.cells #[.int .u64 0, .int .u64 0] 56)) := by
  have e1 : hi64 0 = 0 := by decide
  have e2 : lo64 0 = 0 := by decide
  unfold Keeps
  rw [e1, e2]
  refine ⟨?_, ?_, ?_, ?_, ?_, ?_, ?_, ?_, by simp, ((Below.refl _ _).alloc (Nat.le_refl _) _).alloc (by simp) _⟩ <;> go_simp

theorem toList_nonempty (t : ByteArray) (h : 0 < t.size) : t.toList.isEmpty = false := by
  rw [ByteArray.toList_eq]
  cases e : t.data.toList with
  | nil =>
    have : t.data.toList.length = t.size := by simp
    rw [e] at this
    simp at this
    omega
  | cons c l => rfl

theorem not_dig {c : UInt8} (h : dig c = false) : 9 < ((c.toNat : Int) - 48) % 256 := by
  have h1 : c.toNat < 256 := c.toNat_lt
  have h2 : ¬ (48 ≤ (c.toNat : Int) ∧ (c.toNat : Int) ≤ 57) := by rw [← dig_iff, h]; simp
  omega

set_option maxHeartbeats 400000 in
theorem parse_pos (t : ByteArray) (w : World) (hs : t.size ≤ maxLen) (h0 : 0 < t.size) (hm : ((t[0].toNat : Int) == 45) = false) :
    Calls Yba.prog 9 #[.string t] w fun e w' => e = .returned (parsed (bodyV t.data.toList)) ∧ Below w.heap.size w w' := by
  unfold maxLen at hs
  have he : t.toList.isEmpty = false := toList_nonempty t h0
  go_enter Yba.func9, Yba.ntmps9
  go_wp2
  go_loopw [6] (fun i wr => ∃ k : Nat, k ≤ t.size ∧ i = .int .i64 k ∧ digs (t.data.toList.take k) = true ∧ val (t.data.toList.take k) < 340282366920938463463374607431768211456 ∧ Keeps w (val (t.data.toList.take k)) wr)
    (fun i _ => t.size - (intOf i).toNat)
  case atStart => exact ⟨0, Nat.zero_le _, rfl, rfl, by simp [val_nil], keeps_start w⟩
  case round =>
    obtain ⟨k, hk, rfl, hd, hv, c1, c2, f1, f2, c3, c4, f3, f4, hz, hb⟩ := hrel
    have hv0 := val_nonneg _ hd
    by_cases hlt : k < t.size
    · have HS : Hid (val (t.data.toList.take (k + 1)) = stepV (val (t.data.toList.take k)) t[k]) := by
        show val _ = _; rw [take_snoc t k hlt, val_snoc]
      have HD : Hid (digs (t.data.toList.take (k + 1)) = (digs (t.data.toList.take k) && dig t[k])) := by
        show digs _ = _; rw [take_snoc t k hlt, digs_snoc]
      generalize val (t.data.toList.take k) = n at *
      cases hdg : dig t[k]
      · have HB : Hid (bodyV t.data.toList = none) := bodyV_bad t k hlt hdg
        have hq : 9 < ((t[k].toNat : Int) - 48) % 256 := not_dig hdg
        clear hm he HS HD hd hdg
        go_wp2
        rw [HB.out]
        exact bodyPost_ret (v := .tuple #[.agg #[.int .i64 0, .int .u64 0], .bool false]) (by simp [results, Yba.results9, go_sem, c3, c4]) rfl ⟨rfl, (hb.setCell (Nat.le_refl _) _).setCell (Nat.le_refl _) _⟩
      · rw [dig_iff] at hdg
        obtain ⟨g1, g2⟩ := hdg
        clear hm he
        have HK : Hid (Keeps w n wr) := ⟨c1, c2, f1, f2, c3, c4, f3, f4, hz, hb⟩
        have HN : Hid (nextV (hi64 n) (lo64 n) ((t[k].toNat : Int) - 48) = stepV n t[k]) := next_step n _
        by_cases hnx : nextV (hi64 n) (lo64 n) ((t[k].toNat : Int) - 48) < 340282366920938463463374607431768211456
        · go_wp2_with fail
          refine (mulAdd_ok (hi64 n) (lo64 n) ((t[k].toNat : Int) - 48) (hi64_pos n hv0) (hi64_lt n hv) (lo64_pos n) (lo64_lt n) (by omega) (by omega) wr hnx).mono ?_
          rintro e w' ⟨rfl, b1, b2, rfl⟩
          rw [HN.out] at hnx ⊢
          obtain ⟨d1, d2, e1, e2, d3, d4, e3, e4, ez, eb⟩ := HK.out.two b1 b2
          generalize (wr.alloc (.cells b1 56)).alloc (.cells b2 56) = W1 at *
          clear c1 c2 f1 f2 c3 c4 f3 f4 hz hb HK
          go_wp2
          go_roundw
          case rel => exact ⟨k + 1, by omega, by go_num, by rw [HD.out, hd]; simp; exact (dig_iff _).2 ⟨g1, g2⟩, by rw [HS.out]; exact hnx, by rw [HS.out]; exact Keeps.store ⟨d1, d2, e1, e2, d3, d4, e3, e4, ez, eb⟩⟩
          case measure => simp [intOf]; omega
        · go_wp2_with fail
          refine (mulAdd_no (hi64 n) (lo64 n) ((t[k].toNat : Int) - 48) (hi64_pos n hv0) (hi64_lt n hv) (lo64_pos n) (lo64_lt n) (by omega) (by omega) wr (by omega)).mono ?_
          rintro e w' ⟨h', l', rfl, b1, b2, rfl⟩
          rw [HN.out] at hnx
          have HB : Hid (bodyV t.data.toList = none) := bodyV_out _ (k + 1) (by rw [HS.out]; omega)
          obtain ⟨d1, d2, e1, e2, d3, d4, e3, e4, ez, eb⟩ := HK.out.two b1 b2
          generalize (wr.alloc (.cells b1 56)).alloc (.cells b2 56) = W1 at *
          clear c1 c2 f1 f2 c3 c4 f3 f4 hz hb HK hnx
          go_wp2
          rw [HB.out]
          exact bodyPost_ret (v := .tuple #[.agg #[.int .i64 0, .int .u64 0], .bool false]) (by simp [results, Yba.results9, go_sem, d3, d4]) rfl ⟨rfl, (((eb.setCell (by simp) _).setCell (by simp) _).setCell (Nat.le_refl _) _).setCell (Nat.le_refl _) _⟩
    · have hkl : t.data.toList.take k = t.data.toList := List.take_of_length_le (by simp; omega)
      rw [hkl] at hd hv hv0 c1 c2
      have HK : Hid (Keeps w (val t.data.toList) wr) := ⟨c1, c2, f1, f2, c3, c4, f3, f4, hz, hb⟩
      have hne : t.data.toList ≠ [] := by
        intro e
        have : t.data.toList.length = t.size := by simp
        rw [e] at this
        simp at this
        omega
      have HB : Hid ((170141183460469231731687303715884105728 ≤ val t.data.toList → bodyV t.data.toList = none) ∧ (val t.data.toList < 170141183460469231731687303715884105728 → bodyV t.data.toList = some (val t.data.toList))) :=
        ⟨fun h => bodyV_out _ k (by rw [hkl]; exact h), fun h => bodyV_some _ hne hd h⟩
      generalize val t.data.toList = n at *
      clear hm he hd hkl hne
      by_cases hbig : 170141183460469231731687303715884105728 ≤ n
      · have HR : Hid (bodyV t.data.toList = none) := HB.out.1 hbig
        have hh : 9223372036854775808 ≤ hi64 n := by unfold hi64; omega
        clear HB hv hv0 hbig
        go_wp2_with fail
        refine (from_big _ (hi64 n) (lo64 n) hh wr).mono ?_
        rintro e W1 ⟨rfl, hB1⟩
        obtain ⟨d1, d2, e1, e2, d3, d4, e3, e4, ez, eb⟩ := HK.out.later hB1
        clear c1 c2 f1 f2 c3 c4 f3 f4 hz hb HK hB1
        go_wp2
        rw [HR.out]
        exact bodyPost_ret (v := .tuple #[.agg #[.int .i64 0, .int .u64 0], .bool false]) (by simp [results, Yba.results9, go_sem, d3, d4]) rfl ⟨rfl, (eb.setCell (Nat.le_refl _) _).setCell (Nat.le_refl _) _⟩
      · have HR : Hid (bodyV t.data.toList = some n) := HB.out.2 (by omega)
        clear HB
        go_wp2_with fail
        refine (from_pos n hv0 (by omega) wr).mono ?_
        rintro e W1 ⟨rfl, hB1⟩
        obtain ⟨d1, d2, e1, e2, d3, d4, e3, e4, ez, eb⟩ := HK.out.later hB1
        clear c1 c2 f1 f2 c3 c4 f3 f4 hz hb HK hB1 hv hv0 hbig
        go_wp2
        rw [HR.out]
        exact bodyPost_ret (v := .tuple #[.agg #[.int .i64 (hi64 n), .int .u64 (lo64 n)], .bool true]) (by simp [results, Yba.results9, go_sem, d3, d4]) rfl ⟨rfl, (eb.setCell (Nat.le_refl _) _).setCell (Nat.le_refl _) _⟩
set_option maxHeartbeats 400000 in
theorem parse_neg (s t : ByteArray) (w : World) (hss : s.size ≤ maxLen) (hs0 : 0 < s.size) (hm : ((s[0].toNat : Int) == 45) = true) (ht : s.extract 1 s.size = t) (hs : t.size ≤ maxLen) (h0 : 0 < t.size) :
    Calls Yba.prog 9 #[.string s] w fun e w' => e = .returned (parsed ((bodyV t.data.toList).map fun v => -v)) ∧ Below w.heap.size w w' := by
  unfold maxLen at hs hss
  have he : t.toList.isEmpty = false := toList_nonempty t h0
  go_enter Yba.func9, Yba.ntmps9
  go_wp2
  go_loopw [6] (fun i wr => ∃ k : Nat, k ≤ t.size ∧ i = .int .i64 k ∧ digs (t.data.toList.take k) = true ∧ val (t.data.toList.take k) < 340282366920938463463374607431768211456 ∧ Keeps w (val (t.data.toList.take k)) wr)
    (fun i _ => t.size - (intOf i).toNat)
  case atStart => exact ⟨0, Nat.zero_le _, rfl, rfl, by simp [val_nil], keeps_start w⟩
  case round =>
    obtain ⟨k, hk, rfl, hd, hv, c1, c2, f1, f2, c3, c4, f3, f4, hz, hb⟩ := hrel
    have hv0 := val_nonneg _ hd
    by_cases hlt : k < t.size
    · have HS : Hid (val (t.data.toList.take (k + 1)) = stepV (val (t.data.toList.take k)) t[k]) := by
        show val _ = _; rw [take_snoc t k hlt, val_snoc]
      have HD : Hid (digs (t.data.toList.take (k + 1)) = (digs (t.data.toList.take k) && dig t[k])) := by
        show digs _ = _; rw [take_snoc t k hlt, digs_snoc]
      generalize val (t.data.toList.take k) = n at *
      cases hdg : dig t[k]
      · have HB : Hid (bodyV t.data.toList = none) := bodyV_bad t k hlt hdg
        have hq : 9 < ((t[k].toNat : Int) - 48) % 256 := not_dig hdg
        clear hm he ht hss HS HD hd hdg
        go_wp2
        rw [HB.out, Option.map_none]
        exact bodyPost_ret (v := .tuple #[.agg #[.int .i64 0, .int .u64 0], .bool false]) (by simp [results, Yba.results9, go_sem, c3, c4]) rfl ⟨rfl, (hb.setCell (Nat.le_refl _) _).setCell (Nat.le_refl _) _⟩
      · rw [dig_iff] at hdg
        obtain ⟨g1, g2⟩ := hdg
        clear hm he ht hss
        have HK : Hid (Keeps w n wr) := ⟨c1, c2, f1, f2, c3, c4, f3, f4, hz, hb⟩
        have HN : Hid (nextV (hi64 n) (lo64 n) ((t[k].toNat : Int) - 48) = stepV n t[k]) := next_step n _
        by_cases hnx : nextV (hi64 n) (lo64 n) ((t[k].toNat : Int) - 48) < 340282366920938463463374607431768211456
        · go_wp2_with fail
          refine (mulAdd_ok (hi64 n) (lo64 n) ((t[k].toNat : Int) - 48) (hi64_pos n hv0) (hi64_lt n hv) (lo64_pos n) (lo64_lt n) (by omega) (by omega) wr hnx).mono ?_
          rintro e w' ⟨rfl, b1, b2, rfl⟩
          rw [HN.out] at hnx ⊢
          obtain ⟨d1, d2, e1, e2, d3, d4, e3, e4, ez, eb⟩ := HK.out.two b1 b2
          generalize (wr.alloc (.cells b1 56)).alloc (.cells b2 56) = W1 at *
          clear c1 c2 f1 f2 c3 c4 f3 f4 hz hb HK
          go_wp2
          go_roundw
          case rel => exact ⟨k + 1, by omega, by go_num, by rw [HD.out, hd]; simp; exact (dig_iff _).2 ⟨g1, g2⟩, by rw [HS.out]; exact hnx, by rw [HS.out]; exact Keeps.store ⟨d1, d2, e1, e2, d3, d4, e3, e4, ez, eb⟩⟩
          case measure => simp [intOf]; omega
        · go_wp2_with fail
          refine (mulAdd_no (hi64 n) (lo64 n) ((t[k].toNat : Int) - 48) (hi64_pos n hv0) (hi64_lt n hv) (lo64_pos n) (lo64_lt n) (by omega) (by omega) wr (by omega)).mono ?_
          rintro e w' ⟨h', l', rfl, b1, b2, rfl⟩
          rw [HN.out] at hnx
          have HB : Hid (bodyV t.data.toList = none) := bodyV_out _ (k + 1) (by rw [HS.out]; omega)
          obtain ⟨d1, d2, e1, e2, d3, d4, e3, e4, ez, eb⟩ := HK.out.two b1 b2
          generalize (wr.alloc (.cells b1 56)).alloc (.cells b2 56) = W1 at *
          clear c1 c2 f1 f2 c3 c4 f3 f4 hz hb HK hnx
          go_wp2
          rw [HB.out, Option.map_none]
          exact bodyPost_ret (v := .tuple #[.agg #[.int .i64 0, .int .u64 0], .bool false]) (by simp [results, Yba.results9, go_sem, d3, d4]) rfl ⟨rfl, (((eb.setCell (by simp) _).setCell (by simp) _).setCell (Nat.le_refl _) _).setCell (Nat.le_refl _) _⟩
    · have hkl : t.data.toList.take k = t.data.toList := List.take_of_length_le (by simp; omega)
      rw [hkl] at hd hv hv0 c1 c2
      have HK : Hid (Keeps w (val t.data.toList) wr) := ⟨c1, c2, f1, f2, c3, c4, f3, f4, hz, hb⟩
      have hne : t.data.toList ≠ [] := by
        intro e
        have : t.data.toList.length = t.size := by simp
        rw [e] at this
        simp at this
        omega
      have HB : Hid ((170141183460469231731687303715884105728 ≤ val t.data.toList → bodyV t.data.toList = none) ∧ (val t.data.toList < 170141183460469231731687303715884105728 → bodyV t.data.toList = some (val t.data.toList))) :=
        ⟨fun h => bodyV_out _ k (by rw [hkl]; exact h), fun h => bodyV_some _ hne hd h⟩
      generalize val t.data.toList = n at *
      clear hm he ht hss hd hkl hne
      by_cases hbig : 170141183460469231731687303715884105728 ≤ n
      · have HR : Hid (bodyV t.data.toList = none) := HB.out.1 hbig
        have hh : 9223372036854775808 ≤ hi64 n := by unfold hi64; omega
        clear HB hv hv0 hbig
        go_wp2_with fail
        refine (from_big _ (hi64 n) (lo64 n) hh wr).mono ?_
        rintro e W1 ⟨rfl, hB1⟩
        obtain ⟨d1, d2, e1, e2, d3, d4, e3, e4, ez, eb⟩ := HK.out.later hB1
        clear c1 c2 f1 f2 c3 c4 f3 f4 hz hb HK hB1
        go_wp2
        rw [HR.out, Option.map_none]
        exact bodyPost_ret (v := .tuple #[.agg #[.int .i64 0, .int .u64 0], .bool false]) (by simp [results, Yba.results9, go_sem, d3, d4]) rfl ⟨rfl, (eb.setCell (Nat.le_refl _) _).setCell (Nat.le_refl _) _⟩
      · have HR : Hid (bodyV t.data.toList = some n) := HB.out.2 (by omega)
        clear HB
        go_wp2_with fail
        refine (from_neg n hv0 (by omega) wr).mono ?_
        rintro e W1 ⟨rfl, hB1⟩
        obtain ⟨d1, d2, e1, e2, d3, d4, e3, e4, ez, eb⟩ := HK.out.later hB1
        clear c1 c2 f1 f2 c3 c4 f3 f4 hz hb HK hB1 hv hv0 hbig
        go_wp2
        rw [HR.out, Option.map_some]
        exact bodyPost_ret (v := .tuple #[.agg #[.int .i64 (hi64 (-n)), .int .u64 (lo64 (-n))], .bool true]) (by simp [results, Yba.results9, go_sem, d3, d4]) rfl ⟨rfl, (eb.setCell (Nat.le_refl _) _).setCell (Nat.le_refl _) _⟩

/-- No digit at all. -/
theorem parse_bare (s : ByteArray) (w : World) (hs0 : s.size = 1) (hm : ((s[0].toNat : Int) == 45) = true) :
    Calls Yba.prog 9 #[.string s] w fun e w' => e = .returned (parsed none) ∧ Below w.heap.size w w' := by
  go_enter Yba.func9, Yba.ntmps9
  go_wp2
  exact bodyPost_ret (v := .tuple #[.agg #[.int .i64 0, .int .u64 0], .bool false]) (by simp [results, Yba.results9, go_sem]) rfl ⟨rfl, (Below.refl _ _).alloc (Nat.le_refl _) _⟩
theorem parse_empty (s : ByteArray) (w : World) (hs0 : s.size = 0) (ht : s.toList.isEmpty = true) :
    Calls Yba.prog 9 #[.string s] w fun e w' => e = .returned (parsed none) ∧ Below w.heap.size w w' := by
  have hd : decide ((0 : Int) < (s.size : Int)) = false := decide_eq_false (by omega)
  go_enter Yba.func9, Yba.ntmps9
  go_wp2
  exact bodyPost_ret (v := .tuple #[.agg #[.int .i64 0, .int .u64 0], .bool false]) (by simp [results, Yba.results9, go_sem]) rfl ⟨rfl, (Below.refl _ _).alloc (Nat.le_refl _) _⟩

theorem data_cons (s : ByteArray) (h : 0 < s.size) : s.data.toList = s[0] :: (s.extract 1 s.size).data.toList := by
  rw [Lib.extract_data]
  have hl : s.data.toList.length = s.size := by simp
  have e : (s.data.toList.drop 1).take (s.size - 1) = s.data.toList.drop 1 := List.take_of_length_le (by rw [List.length_drop, hl]; omega)
  rw [e]
  have h0 : 0 < s.data.toList.length := by omega
  have := List.drop_eq_getElem_cons h0
  rw [List.drop_zero] at this
  exact this

/-- ParseInt, every text. -/
theorem parse_any (s : ByteArray) (w : World) (hs : s.size ≤ maxLen) :
    Calls Yba.prog 9 #[.string s] w fun e w' => e = .returned (parsed (parseV s.data.toList)) ∧ Below w.heap.size w w' := by
  by_cases h0 : 0 < s.size
  · rw [data_cons s h0]
    have hx : (s.extract 1 s.size).size = s.size - 1 := by simp
    by_cases hc : s[0] = 45
    · have hm : ((s[0].toNat : Int) == 45) = true := by rw [hc]; rfl
      by_cases h1 : s.size = 1
      · have e : parseV (s[0] :: (s.extract 1 s.size).data.toList) = none := by
          have e2 : (s.extract 1 s.size).data.toList = [] := by
            apply List.eq_nil_of_length_eq_zero
            simp; omega
          rw [e2]; simp [parseV, hc, bodyV_nil]
        rw [e]
        exact parse_bare s w h1 hm
      · have e : parseV (s[0] :: (s.extract 1 s.size).data.toList) = (bodyV (s.extract 1 s.size).data.toList).map fun v => -v := by simp [parseV, hc]
        rw [e]
        exact parse_neg s _ w hs h0 hm rfl (by omega) (by omega)
    · have hm : ((s[0].toNat : Int) == 45) = false := by
        rw [Bool.eq_false_iff]
        intro ht
        apply hc
        apply UInt8.toNat_inj.1
        have : (s[0].toNat : Int) = 45 := by simpa using ht
        show s[0].toNat = 45
        omega
      have e : parseV (s[0] :: (s.extract 1 s.size).data.toList) = bodyV (s[0] :: (s.extract 1 s.size).data.toList) := by simp [parseV, hc]
      rw [e, ← data_cons s h0]
      exact parse_pos s w hs h0 hm
  · have hn : s.size = 0 := by omega
    have e2 : s.data.toList = [] := by
      apply List.eq_nil_of_length_eq_zero
      have : s.data.toList.length = s.size := by simp
      omega
    rw [e2]
    refine parse_empty s w hn ?_
    rw [ByteArray.toList_eq, e2]; rfl
end Go.Proofs.Ybulkbmhw
