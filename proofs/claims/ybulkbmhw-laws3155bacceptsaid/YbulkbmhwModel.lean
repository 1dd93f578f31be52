/-
  THE WALK OF zzs3155bmodel.
-/
import Derived.Test.YbulkbmhwParse
import Derived.Test.YbulkbmhwCompare
namespace Go.Proofs.Ybulkbmhw
open Go.RowKit

/-- what zzs3155bmodel says of a text that parses to r -/
def Out (r : Option Int) (w : World) (e : Ending) (w' : World) : Prop :=
  ∃ (small : Bool) (v : Int), e = .returned (.tuple #[.bool r.isSome, .bool small, .int .i64 v]) ∧ (small = true → r = some v ∧ -1000000000000000000 < v ∧ v < 1000000000000000000) ∧ w' = w

theorem out_none {r : Option Int} (h : r = none) (w : World) : Out r w (.returned (.tuple #[.bool false, .bool false, .int .i64 0])) w :=
  ⟨false, 0, by rw [h]; rfl, by simp, rfl⟩
theorem out_great {r : Option Int} {x : Int} (h : r = some x) (w : World) : Out r w (.returned (.tuple #[.bool true, .bool false, .int .i64 0])) w :=
  ⟨false, 0, by rw [h]; rfl, by simp, rfl⟩
theorem out_small {r : Option Int} {x : Int} (h : r = some x) (h1 : -1000000000000000000 < x) (h2 : x < 1000000000000000000) (w : World) : Out r w (.returned (.tuple #[.bool true, .bool true, .int .i64 x])) w :=
  ⟨true, x, by rw [h]; rfl, fun _ => ⟨h, h1, h2⟩, rfl⟩

/-- the significant digits behind j noughts -/
theorem sig_of (t : ByteArray) (j : Nat) (hj : j < t.size) (hd : digs t.data.toList = true) (he : j + 1 = t.size ∨ t[j] ≠ 48) : Sig (t.extract j t.size).data.toList := by
  rw [Lib.extract_data]
  have hl : t.data.toList.length = t.size := by simp
  have e : (t.data.toList.drop j).take (t.size - j) = t.data.toList.drop j := List.take_of_length_le (by rw [List.length_drop, hl]; omega)
  rw [e]
  have hj' : j < t.data.toList.length := by omega
  have hc : t.data.toList.drop j = t[j] :: t.data.toList.drop (j + 1) := List.drop_eq_getElem_cons hj'
  refine ⟨by rw [hc]; simp, ?_, ?_⟩
  · have := digs_append (t.data.toList.take j) (t.data.toList.drop j)
    rw [List.take_append_drop, hd] at this
    have h2 := this.symm
    rw [Bool.and_eq_true] at h2
    exact h2.2
  · rcases he with he | he
    · left; rw [List.length_drop, hl]; omega
    · right; rw [hc]; simpa using he

theorem drop_val (t : ByteArray) (j : Nat) (hj : j < t.size) (h : t[j] = 48) : val (t.data.toList.drop (j + 1)) = val (t.data.toList.drop j) := by
  have hj' : j < t.data.toList.length := by simpa using hj
  have hc : t.data.toList.drop j = t[j] :: t.data.toList.drop (j + 1) := List.drop_eq_getElem_cons hj'
  rw [hc, h, val_nought]

theorem extract_val (t : ByteArray) (j : Nat) : val (t.extract j t.size).data.toList = val (t.data.toList.drop j) := by
  rw [Lib.extract_data]
  have hl : t.data.toList.length = t.size := by simp
  rw [List.take_of_length_le (by rw [List.length_drop, hl]; omega)]

theorem small_step (g : ByteArray) (k : Nat) (hk : k < g.size) (h18 : g.size ≤ 18) (hd : digs g.data.toList = true) :
    val (g.data.toList.take (k + 1)) = val (g.data.toList.take k) * 10 + ((g[k].toNat : Int) - 48) ∧ 0 ≤ val (g.data.toList.take k) ∧ val (g.data.toList.take k) * 10 + ((g[k].toNat : Int) - 48) < 1000000000000000000 ∧
      48 ≤ (g[k].toNat : Int) ∧ (g[k].toNat : Int) ≤ 57 := by
  have hdt : ∀ m, digs (g.data.toList.take m) = true := fun m => by
    have := digs_append (g.data.toList.take m) (g.data.toList.drop m)
    rw [List.take_append_drop, hd] at this
    have h2 := this.symm
    rw [Bool.and_eq_true] at h2
    exact h2.1
  have e : val (g.data.toList.take (k + 1)) = val (g.data.toList.take k) * 10 + ((g[k].toNat : Int) - 48) := by
    rw [take_snoc g k hk, val_snoc]; rfl
  have hdk : dig g[k] = true := by
    have := hdt (k + 1)
    rw [take_snoc g k hk, digs_snoc, Bool.and_eq_true] at this
    exact this.2
  have hc := (dig_iff _).1 hdk
  have hs := sig_small _ (hdt (k + 1)) (by rw [List.length_take]; omega)
  exact ⟨e, val_nonneg _ (hdt k), by rw [← e]; exact hs.2, hc.1, hc.2⟩

set_option maxRecDepth 100000 in
set_option maxHeartbeats 1000000 in
theorem model_pos (t : ByteArray) (w : World) (hs : t.size ≤ 1024) (h0 : 0 < t.size) (hm : ((t[0].toNat : Int) == 45) = false) :
    Calls Yba.prog 11 #[.string t] w (Out (bodyV t.data.toList) w) := by
  have he : t.toList.isEmpty = false := toList_nonempty t h0
  have hne : t.data.toList ≠ [] := by
    intro e
    have : t.data.toList.length = t.size := by simp
    rw [e] at this
    simp at this
    omega
  go_enter Yba.func11, Yba.ntmps11
  go_wp2
  clear hm he
  go_loop [4, 7] (fun v i => ∃ k : Nat, k ≤ t.size ∧ v = .int .i64 0 ∧ i = .int .i64 k ∧ digs (t.data.toList.take k) = true) (fun _ i => t.size - (intOf i).toNat)
  case atStart => exact ⟨0, Nat.zero_le _, rfl, rfl, rfl⟩
  case round =>
    obtain ⟨k, hk, rfl, rfl, hd⟩ := hrel
    by_cases hlt : k < t.size
    · have HD : Hid (digs (t.data.toList.take (k + 1)) = (digs (t.data.toList.take k) && dig t[k])) := by
        show digs _ = _; rw [take_snoc t k hlt, digs_snoc]
      by_cases c1 : (t[k].toNat : Int) < 48
      · have HB : Hid (bodyV t.data.toList = none) := bodyV_bad t k hlt (by rw [Bool.eq_false_iff]; intro h; rw [dig_iff] at h; omega)
        clear hne hd HD
        go_wp2
        go_ret3
        exact out_none HB.out w
      · by_cases c2 : (t[k].toNat : Int) ≤ 57
        · clear hne
          have HD' : Hid (digs (t.data.toList.take (k + 1)) = true) := by
            have := HD.out
            rw [hd, (dig_iff _).2 ⟨by omega, c2⟩] at this
            exact this
          clear HD hd
          go_wp2
          go_round
          case rel => exact ⟨k + 1, by omega, rfl, by go_num, HD'.out⟩
          case measure => simp [intOf]; omega
        · have HB : Hid (bodyV t.data.toList = none) := bodyV_bad t k hlt (by rw [Bool.eq_false_iff]; intro h; rw [dig_iff] at h; omega)
          clear hne hd HD
          go_wp2
          go_ret3
          exact out_none HB.out w
    · have hdl : digs t.data.toList = true := by
        rw [List.take_of_length_le (by simp; omega)] at hd
        exact hd
      have HDL : Hid (digs t.data.toList = true) := hdl
      clear hd hdl
      have HNE : Hid (t.data.toList ≠ []) := hne
      clear hne
      have hk0 : k = t.size := by omega
      subst hk0
      clear hk hlt
      go_wp2
      go_loop [8] (fun i => ∃ j : Nat, j < t.size ∧ i = .int .i64 j ∧ val (t.data.toList.drop j) = val t.data.toList) (fun i => t.size - (intOf i).toNat)
      case atStart => exact ⟨0, h0, rfl, rfl⟩
      case round =>
        obtain ⟨j, hj, rfl, hv⟩ := hrel
        have HV : Hid (val (t.data.toList.drop j) = val t.data.toList) := hv
        clear hv
        by_cases hz : j + 1 < t.size ∧ t[j] = 48
        · obtain ⟨hz1, hz2⟩ := hz
          have HV' : Hid (val (t.data.toList.drop (j + 1)) = val t.data.toList) := (drop_val t j hj hz2).trans HV.out
          have hq : ((t[j].toNat : Int) == 48) = true := by rw [hz2]; rfl
          clear hz2 HV
          have hz1' : (j : Int) < (t.size : Int) - 1 := by omega
          go_wp2
          go_round
          case rel => exact ⟨j + 1, hz1, by go_num, HV'.out⟩
          case measure => simp [intOf]; omega
        · have hzc : j + 1 = t.size ∨ t[j] ≠ 48 := by
            by_cases h : j + 1 < t.size
            · exact .inr fun e => hz ⟨h, e⟩
            · exact .inl (by omega)
          have HSIG : Hid (Sig (t.extract j t.size).data.toList) := sig_of t j hj HDL.out hzc
          have HVG : Hid (val (t.extract j t.size).data.toList = val t.data.toList) := (extract_val t j).trans HV.out
          have hgs : (t.extract j t.size).size ≤ 1024 := by simp; omega
          have key : decide ((j : Int) < (t.size : Int) - 1) = false ∨ ((j : Int) < (t.size : Int) - 1 ∧ ((t[j].toNat : Int) == 48) = false) := by
            by_cases h : j + 1 < t.size
            · refine .inr ⟨by omega, ?_⟩
              rw [Bool.eq_false_iff]
              intro ht
              have e : (t[j].toNat : Int) = 48 := by simpa using ht
              exact hz ⟨h, UInt8.toNat_inj.1 (show t[j].toNat = 48 by omega)⟩
            · exact .inl (decide_eq_false (by omega))
          obtain ⟨g, ht⟩ : ∃ g, t.extract j t.size = g := ⟨_, rfl⟩
          rw [ht] at HSIG HVG hgs
          have HR : Hid ((170141183460469231731687303715884105728 ≤ val g.data.toList → bodyV t.data.toList = none) ∧ (val g.data.toList < 170141183460469231731687303715884105728 → bodyV t.data.toList = some (val g.data.toList))) := by
            refine ⟨fun h => bodyV_out _ t.size ?_, fun h => ?_⟩
            · rw [List.take_of_length_le (by simp), ← HVG.out]; exact h
            · rw [HVG.out]; exact bodyV_some _ HNE.out HDL.out (by rw [← HVG.out]; exact h)
          clear hz hzc HV HVG HNE HDL
          have hgl : g.data.toList.length = g.size := by simp
          have HGL : Hid (g.data.toList.length = g.size) := hgl
          clear hgl
          rcases key with hg | ⟨hg, hg2⟩
          all_goals
            by_cases g1 : 39 < g.size
            · have HB : Hid (bodyV t.data.toList = none) := HR.out.1 (sig_long _ HSIG.out (by rw [HGL.out]; exact g1))
              go_wp2
              go_ret3
              exact out_none HB.out w
            by_cases g2 : g.size = 39
            · have hle : Op.bytesLess g.toList [49, 55, 48, 49, 52, 49, 49, 56, 51, 52, 54, 48, 52, 54, 57, 50, 51, 49, 55, 51, 49, 54, 56, 55, 51, 48, 51, 55, 49, 53, 56, 56, 52, 49, 48, 53, 55, 50, 56] = decide (val g.data.toList < 170141183460469231731687303715884105728) := by
                rw [ByteArray.toList_eq]
                exact sig_at _ HSIG.out (by rw [HGL.out]; exact g2)
              by_cases hv : val g.data.toList < 170141183460469231731687303715884105728
              · rw [decide_eq_true hv] at hle
                have HB : Hid (bodyV t.data.toList = some (val g.data.toList)) := HR.out.2 hv
                clear hv HR HSIG HGL
                go_wp2
                go_ret3
                exact out_great HB.out w
              · rw [decide_eq_false hv] at hle
                have HB : Hid (bodyV t.data.toList = none) := HR.out.1 (by omega)
                clear hv HR HSIG HGL
                go_wp2
                go_ret3
                exact out_none HB.out w
            have HB : Hid (bodyV t.data.toList = some (val g.data.toList)) := HR.out.2 (sig_short _ HSIG.out (by rw [HGL.out]; omega))
            have HGD : Hid (digs g.data.toList = true) := HSIG.out.2.1
            clear HR HSIG
            by_cases g3 : 18 < g.size
            · clear HGL HGD
              go_wp2
              go_ret3
              exact out_great HB.out w
            · go_wp2
              go_loop [4, 10] (fun v i => ∃ k : Nat, k ≤ g.size ∧ i = .int .i64 k ∧ v = .int .i64 (val (g.data.toList.take k))) (fun _ i => g.size - (intOf i).toNat)
              case atStart => exact ⟨0, Nat.zero_le _, rfl, rfl⟩
              case round =>
                obtain ⟨k, hk, rfl, rfl⟩ := hrel
                by_cases hlt : k < g.size
                · obtain ⟨s1, s2, s3, s4, s5⟩ := small_step g k hlt (by omega) HGD.out
                  have HS : Hid (val (g.data.toList.take (k + 1)) = val (g.data.toList.take k) * 10 + ((g[k].toNat : Int) - 48)) := s1
                  clear s1
                  generalize val (g.data.toList.take k) = u at *
                  clear hg HGL HGD HB ht g1 g2
                  go_wp2
                  go_round
                  case rel => exact ⟨k + 1, by omega, by go_num, by rw [HS.out]⟩
                  case measure => simp [intOf]; omega
                · have hkg : k = g.size := by omega
                  subst hkg
                  have e : g.data.toList.take g.size = g.data.toList := List.take_of_length_le (by simp)
                  rw [e]
                  have hsm := sig_small _ HGD.out (by rw [HGL.out]; omega)
                  have HSM : Hid (0 ≤ val g.data.toList ∧ val g.data.toList < 1000000000000000000) := hsm
                  clear hg e hsm HGL HGD ht g1 g2
                  go_wp2
                  go_ret3
                  exact out_small HB.out (by have := HSM.out; omega) (by have := HSM.out; omega) w
set_option maxRecDepth 100000 in
set_option maxHeartbeats 1000000 in
theorem model_neg (s t : ByteArray) (w : World) (hss : s.size ≤ 1024) (hs0 : 0 < s.size) (hm : ((s[0].toNat : Int) == 45) = true) (hst : s.extract 1 s.size = t) (hs : t.size ≤ 1024) (h0 : 0 < t.size) :
    Calls Yba.prog 11 #[.string s] w (Out ((bodyV t.data.toList).map fun v => -v) w) := by
  have he : t.toList.isEmpty = false := toList_nonempty t h0
  have hne : t.data.toList ≠ [] := by
    intro e
    have : t.data.toList.length = t.size := by simp
    rw [e] at this
    simp at this
    omega
  go_enter Yba.func11, Yba.ntmps11
  go_wp2
  clear hm he hst hss
  go_loop [4, 7] (fun v i => ∃ k : Nat, k ≤ t.size ∧ v = .int .i64 0 ∧ i = .int .i64 k ∧ digs (t.data.toList.take k) = true) (fun _ i => t.size - (intOf i).toNat)
  case atStart => exact ⟨0, Nat.zero_le _, rfl, rfl, rfl⟩
  case round =>
    obtain ⟨k, hk, rfl, rfl, hd⟩ := hrel
    by_cases hlt : k < t.size
    · have HD : Hid (digs (t.data.toList.take (k + 1)) = (digs (t.data.toList.take k) && dig t[k])) := by
        show digs _ = _; rw [take_snoc t k hlt, digs_snoc]
      by_cases c1 : (t[k].toNat : Int) < 48
      · have HB : Hid (bodyV t.data.toList = none) := bodyV_bad t k hlt (by rw [Bool.eq_false_iff]; intro h; rw [dig_iff] at h; omega)
        clear hne hd HD
        go_wp2
        go_ret3
        exact out_none (by rw [HB.out]; rfl) w
      · by_cases c2 : (t[k].toNat : Int) ≤ 57
        · clear hne
          have HD' : Hid (digs (t.data.toList.take (k + 1)) = true) := by
            have := HD.out
            rw [hd, (dig_iff _).2 ⟨by omega, c2⟩] at this
            exact this
          clear HD hd
          go_wp2
          go_round
          case rel => exact ⟨k + 1, by omega, rfl, by go_num, HD'.out⟩
          case measure => simp [intOf]; omega
        · have HB : Hid (bodyV t.data.toList = none) := bodyV_bad t k hlt (by rw [Bool.eq_false_iff]; intro h; rw [dig_iff] at h; omega)
          clear hne hd HD
          go_wp2
          go_ret3
          exact out_none (by rw [HB.out]; rfl) w
    · have hdl : digs t.data.toList = true := by
        rw [List.take_of_length_le (by simp; omega)] at hd
        exact hd
      have HDL : Hid (digs t.data.toList = true) := hdl
      clear hd hdl
      have HNE : Hid (t.data.toList ≠ []) := hne
      clear hne
      have hk0 : k = t.size := by omega
      subst hk0
      clear hk hlt
      go_wp2
      go_loop [8] (fun i => ∃ j : Nat, j < t.size ∧ i = .int .i64 j ∧ val (t.data.toList.drop j) = val t.data.toList) (fun i => t.size - (intOf i).toNat)
      case atStart => exact ⟨0, h0, rfl, rfl⟩
      case round =>
        obtain ⟨j, hj, rfl, hv⟩ := hrel
        have HV : Hid (val (t.data.toList.drop j) = val t.data.toList) := hv
        clear hv
        by_cases hz : j + 1 < t.size ∧ t[j] = 48
        · obtain ⟨hz1, hz2⟩ := hz
          have HV' : Hid (val (t.data.toList.drop (j + 1)) = val t.data.toList) := (drop_val t j hj hz2).trans HV.out
          have hq : ((t[j].toNat : Int) == 48) = true := by rw [hz2]; rfl
          clear hz2 HV
          have hz1' : (j : Int) < (t.size : Int) - 1 := by omega
          go_wp2
          go_round
          case rel => exact ⟨j + 1, hz1, by go_num, HV'.out⟩
          case measure => simp [intOf]; omega
        · have hzc : j + 1 = t.size ∨ t[j] ≠ 48 := by
            by_cases h : j + 1 < t.size
            · exact .inr fun e => hz ⟨h, e⟩
            · exact .inl (by omega)
          have HSIG : Hid (Sig (t.extract j t.size).data.toList) := sig_of t j hj HDL.out hzc
          have HVG : Hid (val (t.extract j t.size).data.toList = val t.data.toList) := (extract_val t j).trans HV.out
          have hgs : (t.extract j t.size).size ≤ 1024 := by simp; omega
          have key : decide ((j : Int) < (t.size : Int) - 1) = false ∨ ((j : Int) < (t.size : Int) - 1 ∧ ((t[j].toNat : Int) == 48) = false) := by
            by_cases h : j + 1 < t.size
            · refine .inr ⟨by omega, ?_⟩
              rw [Bool.eq_false_iff]
              intro ht
              have e : (t[j].toNat : Int) = 48 := by simpa using ht
              exact hz ⟨h, UInt8.toNat_inj.1 (show t[j].toNat = 48 by omega)⟩
            · exact .inl (decide_eq_false (by omega))
          obtain ⟨g, ht⟩ : ∃ g, t.extract j t.size = g := ⟨_, rfl⟩
          rw [ht] at HSIG HVG hgs
          have HR : Hid ((170141183460469231731687303715884105728 ≤ val g.data.toList → bodyV t.data.toList = none) ∧ (val g.data.toList < 170141183460469231731687303715884105728 → bodyV t.data.toList = some (val g.data.toList))) := by
            refine ⟨fun h => bodyV_out _ t.size ?_, fun h => ?_⟩
            · rw [List.take_of_length_le (by simp), ← HVG.out]; exact h
            · rw [HVG.out]; exact bodyV_some _ HNE.out HDL.out (by rw [← HVG.out]; exact h)
          clear hz hzc HV HVG HNE HDL
          have hgl : g.data.toList.length = g.size := by simp
          have HGL : Hid (g.data.toList.length = g.size) := hgl
          clear hgl
          rcases key with hg | ⟨hg, hg2⟩
          all_goals
            by_cases g1 : 39 < g.size
            · have HB : Hid (bodyV t.data.toList = none) := HR.out.1 (sig_long _ HSIG.out (by rw [HGL.out]; exact g1))
              go_wp2
              go_ret3
              exact out_none (by rw [HB.out]; rfl) w
            by_cases g2 : g.size = 39
            · have hle : Op.bytesLess g.toList [49, 55, 48, 49, 52, 49, 49, 56, 51, 52, 54, 48, 52, 54, 57, 50, 51, 49, 55, 51, 49, 54, 56, 55, 51, 48, 51, 55, 49, 53, 56, 56, 52, 49, 48, 53, 55, 50, 56] = decide (val g.data.toList < 170141183460469231731687303715884105728) := by
                rw [ByteArray.toList_eq]
                exact sig_at _ HSIG.out (by rw [HGL.out]; exact g2)
              by_cases hv : val g.data.toList < 170141183460469231731687303715884105728
              · rw [decide_eq_true hv] at hle
                have HB : Hid (bodyV t.data.toList = some (val g.data.toList)) := HR.out.2 hv
                clear hv HR HSIG HGL
                go_wp2
                go_ret3
                exact out_great (by rw [HB.out]; rfl) w
              · rw [decide_eq_false hv] at hle
                have HB : Hid (bodyV t.data.toList = none) := HR.out.1 (by omega)
                clear hv HR HSIG HGL
                go_wp2
                go_ret3
                exact out_none (by rw [HB.out]; rfl) w
            have HB : Hid (bodyV t.data.toList = some (val g.data.toList)) := HR.out.2 (sig_short _ HSIG.out (by rw [HGL.out]; omega))
            have HGD : Hid (digs g.data.toList = true) := HSIG.out.2.1
            clear HR HSIG
            by_cases g3 : 18 < g.size
            · clear HGL HGD
              go_wp2
              go_ret3
              exact out_great (by rw [HB.out]; rfl) w
            · go_wp2
              go_loop [4, 10] (fun v i => ∃ k : Nat, k ≤ g.size ∧ i = .int .i64 k ∧ v = .int .i64 (val (g.data.toList.take k))) (fun _ i => g.size - (intOf i).toNat)
              case atStart => exact ⟨0, Nat.zero_le _, rfl, rfl⟩
              case round =>
                obtain ⟨k, hk, rfl, rfl⟩ := hrel
                by_cases hlt : k < g.size
                · obtain ⟨s1, s2, s3, s4, s5⟩ := small_step g k hlt (by omega) HGD.out
                  have HS : Hid (val (g.data.toList.take (k + 1)) = val (g.data.toList.take k) * 10 + ((g[k].toNat : Int) - 48)) := s1
                  clear s1
                  generalize val (g.data.toList.take k) = u at *
                  clear hg HGL HGD HB ht g1 g2
                  go_wp2
                  go_round
                  case rel => exact ⟨k + 1, by omega, by go_num, by rw [HS.out]⟩
                  case measure => simp [intOf]; omega
                · have hkg : k = g.size := by omega
                  subst hkg
                  have e : g.data.toList.take g.size = g.data.toList := List.take_of_length_le (by simp)
                  rw [e]
                  have hsm := sig_small _ HGD.out (by rw [HGL.out]; omega)
                  have HSM : Hid (0 ≤ val g.data.toList ∧ val g.data.toList < 1000000000000000000) := hsm
                  obtain ⟨hsm1, hsm2⟩ := hsm
                  clear hg e HGL HGD ht g1 g2
                  go_wp2
                  go_ret3
                  exact out_small (by rw [HB.out]; rfl) (by have := HSM.out; omega) (by have := HSM.out; omega) w

theorem model_bare (s : ByteArray) (w : World) (hs0 : s.size = 1) (hm : ((s[0].toNat : Int) == 45) = true) :
    Calls Yba.prog 11 #[.string s] w (Out none w) := by
  go_enter Yba.func11, Yba.ntmps11
  go_wp2
  go_ret3
  exact out_none rfl w
theorem model_empty (s : ByteArray) (w : World) (hs0 : s.size = 0) (ht : s.toList.isEmpty = true) :
    Calls Yba.prog 11 #[.string s] w (Out none w) := by
  have hd : decide ((0 : Int) < (s.size : Int)) = false := decide_eq_false (by omega)
  go_enter Yba.func11, Yba.ntmps11
  go_wp2
  go_ret3
  exact out_none rfl w

/-- zzs3155bmodel, every text of at most 1024 bytes. -/
theorem model_any (s : ByteArray) (w : World) (hs : s.size ≤ 1024) :
    Calls Yba.prog 11 #[.string s] w (Out (parseV s.data.toList) w) := by
  by_cases h0 : 0 < s.size
  · rw [data_cons s h0]
    have hx : (s.extract 1 s.size).size = s.size - 1 := by simp
    by_cases hc : s[0] = 45
    · have hm : ((s[0].toNat : Int) == 45) = true := by rw [hc]; rfl
      by_cases h1 : s.size = 1
      · have e : parseV (s[0] :: (s.extract 1 s.size).data.toList) = none := by
          have e2 : (s.extract 1 s.size).data.toList = [] := by
            apply List.eq_nil_of_length_eq_zero
            simp; omega
          rw [e2]; simp [parseV, hc, bodyV_nil]
        rw [e]
        exact model_bare s w h1 hm
      · have e : parseV (s[0] :: (s.extract 1 s.size).data.toList) = (bodyV (s.extract 1 s.size).data.toList).map fun v => -v := by simp [parseV, hc]
        rw [e]
        exact model_neg s _ w hs h0 hm rfl (by omega) (by omega)
    · have hm : ((s[0].toNat : Int) == 45) = false := by
        rw [Bool.eq_false_iff]
        intro ht
        apply hc
        apply UInt8.toNat_inj.1
        have : (s[0].toNat : Int) = 45 := by simpa using ht
        show s[0].toNat = 45
        omega
      have e : parseV (s[0] :: (s.extract 1 s.size).data.toList) = bodyV (s[0] :: (s.extract 1 s.size).data.toList) := by simp [parseV, hc]
      rw [e, ← data_cons s h0]
      exact model_pos s w hs h0 hm
  · have hn : s.size = 0 := by omega
    have e2 : s.data.toList = [] := by
      apply List.eq_nil_of_length_eq_zero
      have : s.data.toList.length = s.size := by simp
      omega
    rw [e2]
    refine model_empty s w hn ?_
    rw [ByteArray.toList_eq, e2]; rfl
end Go.Proofs.Ybulkbmhw
