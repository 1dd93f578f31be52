/-
  PROOF OF 'Rows.LawS3155AFirstLossSourceSaid'. The frame is the seat's given shell (written by program at this function's number and types); the walk is typed by the seat's prover.
-/
import Derived.Test.YbulkbmhwRows
import Derived.WalkKit
import Derived.ProofKit
import Derived.OpenShut
import Derived.ShutString
import Derived.WalkSpells
import Derived.WalkLawsBesides
import Derived.Lib.Builder
import Derived.RegionTactic
import Derived.ChangeAlike
import Derived.Deep.QuietTactic
import Derived.BigQuiet
namespace Go.Proofs.Ybulkbmhw.lawS3155AFirstLossSource
open Go.ChangeShapes Go.WideShapes Go.ChangeAt Go.RowKit
open Go.ChangeMaps (open_string shut_string)
set_option linter.unusedVariables false      -- a walk need not use every 'w<i>' (that an integer argument fits its kind)

theorem own : ownKnob Yba.prog.godebug = none := by kernel_rfl

/-! ### A pointer held against itself by '==' (type 41: *accountRef) -/
theorem info25 : ∃ j, Yba.prog.info? 25 = some j := by
  have h : (Yba.prog.info? 25).isSome = true := by kernel_rfl
  exact Option.isSome_iff_exists.mp h
theorem eqlSame (w : World) (a : Addr) : (binOp .eql 41 (.pointer (some a)) (.pointer (some a))).run Yba.prog w = .ok (.bool true) w := by
  obtain ⟨j, hj⟩ := info25
  exact run_eql_ptr_same w a Yba.underlying41 hj

/-! ### gainAccount: its two ways -/
theorem gain_net (b c : Nat) (s : ByteArray) (w : World) (h : w.cell? ⟨c, 0, none⟩ = some (.string s)) (hs : (s.toList == [110, 101, 116, 119, 111, 114, 107]) = true) :
    Calls Yba.prog 7 #[.pointer (some ⟨b, 0, none⟩), .pointer (some ⟨c, 0, none⟩)] w fun e w' => e = .returned (.pointer (some ⟨b, 26, none⟩)) ∧ w' = w := by
  go_enter Yba.func7, Yba.ntmps7
  go_wp2
  go_ret
  exact ⟨rfl, rfl⟩
theorem gain_other (b c : Nat) (s : ByteArray) (w : World) (h : w.cell? ⟨c, 0, none⟩ = some (.string s)) (hs : (s.toList == [110, 101, 116, 119, 111, 114, 107]) = false) :
    Calls Yba.prog 7 #[.pointer (some ⟨b, 0, none⟩), .pointer (some ⟨c, 0, none⟩)] w fun e w' => e = .returned (.pointer (some ⟨c, 7, none⟩)) ∧ w' = w := by
  go_enter Yba.func7, Yba.ntmps7
  go_wp2
  go_ret
  exact ⟨rfl, rfl⟩

/-! ### The three ways of the law -/
theorem net_name : ((⟨#[110, 101, 116, 119, 111, 114, 107]⟩ : ByteArray).toList == [110, 101, 116, 119, 111, 114, 107]) = true := by kernel_rfl
set_option maxRecDepth 100000 in
set_option maxHeartbeats 400000 in
theorem walk_net (a0 : ByteArray) (a2 : ByteArray) (a3 : ByteArray) (w : World) :
    Calls Yba.prog 4 #[.string a0, .bool true, .string a2, .string a3] w fun e w' => e = .returned (.bool true) ∧ Grown w w' := by
  have hq := eqlSame
  go_enter Yba.func4, Yba.ntmps4
  go_wp2
  go_quiet ((go_at_call 7; refine Calls.quiet_of_same (gain_net _ _ ⟨#[110, 101, 116, 119, 111, 114, 107]⟩ _ ?_ net_name); go_simp))
  go_wp2
  go_ret
  exact ⟨rfl, by repeat (first | exact Grown.refl _ | apply Grown.drew | apply Grown.alloc)⟩
set_option maxRecDepth 100000 in
set_option maxHeartbeats 400000 in
theorem walk_named (a0 : ByteArray) (a2 : ByteArray) (a3 : ByteArray) (w : World) (hs : (a0.toList == [110, 101, 116, 119, 111, 114, 107]) = true) :
    Calls Yba.prog 4 #[.string a0, .bool false, .string a2, .string a3] w fun e w' => e = .returned (.bool true) ∧ Grown w w' := by
  have hq := eqlSame
  go_enter Yba.func4, Yba.ntmps4
  go_wp2
  go_quiet ((go_at_call 7; refine Calls.quiet_of_same (gain_net _ _ a0 _ ?_ hs); go_simp))
  go_wp2
  go_ret
  exact ⟨rfl, by repeat (first | exact Grown.refl _ | apply Grown.drew | apply Grown.alloc)⟩
set_option maxRecDepth 100000 in
set_option maxHeartbeats 400000 in
theorem walk_other (a0 : ByteArray) (a2 : ByteArray) (a3 : ByteArray) (w : World) (hs : (a0.toList == [110, 101, 116, 119, 111, 114, 107]) = false) :
    Calls Yba.prog 4 #[.string a0, .bool false, .string a2, .string a3] w fun e w' => e = .returned (.bool true) ∧ Grown w w' := by
  have hq := eqlSame
  go_enter Yba.func4, Yba.ntmps4
  go_wp2
  go_region
  go_wp2
  go_quiet ((go_at_call 7; refine (gain_other _ _ a0 _ ?_ hs).mono (fun e w1 h => ⟨h.1, _, h.2⟩); go_simp))
  go_wp2
  go_ret
  exact ⟨rfl, by repeat (first | exact Grown.refl _ | apply Grown.drew | apply Grown.alloc)⟩

/-! ### STEP 1: THE WALK: the Go text returns true. 'Grown w w'': the world has at most new blocks (Derived/RowKit3.lean). Part the cases AHEAD of 'go_enter' where a test parts the walk; take each callee by a contract of your own. -/
theorem walk (a0 : ByteArray) (a1 : Bool) (a2 : ByteArray) (a3 : ByteArray) (w0 : a0.size ≤ maxLen) (w2 : a2.size ≤ maxLen) (w3 : a3.size ≤ maxLen) (w : World) :
    Calls Yba.prog 4 #[.string a0, .bool a1, .string a2, .string a3] w fun e w' => e = .returned (.bool true) ∧ Grown w w' := by
  cases a1
  · by_cases hs : (a0.toList == [110, 101, 116, 119, 111, 114, 107]) = true
    · exact walk_named a0 a2 a3 w hs
    · exact walk_other a0 a2 a3 w (by simpa using hs)
  · exact walk_net a0 a2 a3 w

/-! ### THE ROW's STEP: WRITTEN OUT: LEAVE IT -/
set_option maxRecDepth 100000 in
theorem lifted (os : Os) (started : os.Started) (H : Type) (enc : TypeId × Value → H) :
    ReturnsInHanded {} Yba.checked os 4 .any (Rows.lawS3155AFirstLossSourceSpec.pre6 enc Yba.prog Yba.f4 Rows.lawS3155AFirstLossSourceRow.domain false) (Rows.lawS3155AFirstLossSourceSpec.post enc Yba.prog Yba.f4 false true false false) := by
  refine returnsInHanded_of_change (C := Yba.checked) own started (by kernel_rfl) Yba.func4
    (ChangeSpec.witness6 (enc := enc) (C := Yba.checked) false ⟨#[], #[.string ByteArray.empty, .bool false, .string ByteArray.empty, .string ByteArray.empty], []⟩ 8 (by kernel_rfl) (by kernel_rfl) (by kernel_rfl) (by kernel_rfl)) ?_
  intro W base args ds gs before hval0 hW hcnd _
  have hval : ∀ (j : Nat) t v, Yba.f4.params[j]? = some t → args[j]? = some v → Value.okWide Yba.prog W .any base t v := hval0
  have hW' := hW
  obtain ⟨p, q, hA0, hV, rfl, hfz, hnd⟩ := hW
  have hA : DataW.TrodAll enc Yba.prog W 0 (fun _ => true) true Yba.f4.params.toList args.toList ds p := hA0
  rw [Yba.params4] at hA hval
  obtain ⟨v0, vs0, d0, ds0, p0, q0, hargs, rfl, rfl, h0, r0⟩ := trodAll_cons hA
  obtain ⟨v1, vs1, d1, ds1, p1, q1, rfl, rfl, rfl, h1, r1⟩ := trodAll_cons r0
  obtain ⟨v2, vs2, d2, ds2, p2, q2, rfl, rfl, rfl, h2, r2⟩ := trodAll_cons r1
  obtain ⟨v3, vs3, d3, ds3, p3, q3, rfl, rfl, rfl, h3, r3⟩ := trodAll_cons r2
  obtain ⟨rfl, rfl, rfl⟩ := trodAll_nil r3
  obtain rfl : args = #[v0, v1, v2, v3] := by cases args; simp_all
  obtain ⟨rfl, rfl⟩ := trodVars_none hV
  obtain ⟨a0, rfl, rfl, rfl, w0⟩ := open_string Yba.underlying9 (hval 0 9 v0 rfl rfl) h0
  obtain ⟨a1, rfl, rfl, rfl⟩ := open_bool Yba.underlying4 (hval 1 4 v1 rfl rfl) h1
  obtain ⟨a2, rfl, rfl, rfl, w2⟩ := open_string Yba.underlying9 (hval 2 9 v2 rfl rfl) h2
  obtain ⟨a3, rfl, rfl, rfl, w3⟩ := open_string Yba.underlying9 (hval 3 9 v3 rfl rfl) h3
  clear hA0 hval0
  simp only [List.append_nil] at hW'
  refine (walk a0 a1 a2 a3 w0 w2 w3 W).mono fun e W' ⟨he, hg⟩ => ?_
  subst he
  exact ⟨_, rfl, post_of_same (pa := []) (pv := []) hW' (fun _ _ _ => (trodAll_cons_mk (shut_bool Yba.underlying4 _) trodAll_mk0)) (fun sp _ => (trodAll_cons_mk (shut_string Yba.underlying9 w0) (trodAll_cons_mk (shut_bool Yba.underlying4 _) (trodAll_cons_mk (shut_string Yba.underlying9 w2) (trodAll_cons_mk (shut_string Yba.underlying9 w3) trodAll_mk0))))) (fun _ _ => rfl) rfl
    (hg.frame _) hg.2.1 (ok_one (by kernel_rfl) rfl (okWide_bool_mk Yba.underlying4 _))⟩

theorem over : Rows.lawS3155AFirstLossSourceRow.holds Yba.pinned (OpenSpec.ofChange Rows.lawS3155AFirstLossSourceSpec) :=
  OpenClaim.holds_of_wide 4 Yba.f4 rfl rfl rfl rfl rfl rfl rfl ⟨rfl, rfl, rfl, rfl, rfl⟩ rfl rfl rfl rfl rfl (by kernel_rfl) Yba.func4 (by kernel_rfl)
    (of_decide_eq_true (by kernel_rfl)) (by unfold Func.isWrapper; first | (rw [if_pos (by decide +kernel)]; kernel_rfl) | (rw [if_neg (by decide +kernel)]; exact ⟨rfl, rfl⟩))
    (fun os started H enc _ => lifted os started H enc)

/-- ████ THE STATEMENT ████ -/
theorem proved : Rows.LawS3155AFirstLossSourceSaid :=
  over
#print axioms proved
end Go.Proofs.Ybulkbmhw.lawS3155AFirstLossSource
