/-
  PROOF OF 'Rows.LawS3155BAcceptSaid'. The frame is the seat's given shell (written by program at this function's number and types); the walk is typed by the seat's prover.
-/
import Derived.Test.YbulkbmhwModel
import Derived.WalkKit
import Derived.ProofKit
import Derived.OpenShut
import Derived.ShutString
namespace Go.Proofs.Ybulkbmhw.lawS3155BAccept
open Go.ChangeShapes Go.WideShapes Go.ChangeAt Go.RowKit
open Go.ChangeMaps (open_string shut_string)
set_option linter.unusedVariables false      -- a walk need not use every 'w<i>' (that an integer argument fits its kind)

theorem own : ownKnob Yba.prog.godebug = none := by kernel_rfl

/-! ### STEP 1: THE WALK -/
set_option maxHeartbeats 400000 in
theorem walk (a0 : ByteArray) (w0 : a0.size ≤ maxLen) (w : World) :
    Calls Yba.prog 6 #[.string a0] w fun e w' => e = .returned (.bool true) ∧ Below w.heap.size w w' := by
  have hb := w0
  unfold maxLen at hb
  by_cases hbig : 1024 < a0.size
  · go_enter Yba.func6, Yba.ntmps6
    go_wp2
    go_ret
    exact ⟨rfl, Below.refl _ _⟩
  cases hp : parseV a0.data.toList with
  | none =>
    have P : Hid (∀ w1 : World, Calls Yba.prog 9 #[.string a0] w1 fun e w' => e = .returned (.tuple #[.agg #[.int .i64 0, .int .u64 0], .bool false]) ∧ Below w1.heap.size w1 w') := by
      intro w1
      have h := parse_any a0 w1 w0
      rw [hp] at h
      exact h
    have M : Hid (∀ w1 : World, Calls Yba.prog 11 #[.string a0] w1 (Out none w1)) := by
      intro w1
      have h := model_any a0 w1 (by omega)
      rw [hp] at h
      exact h
    clear hp
    go_enter Yba.func6, Yba.ntmps6
    go_wp2_with fail
    refine (P.out _).mono ?_
    rintro e w1 ⟨rfl, hb1⟩
    go_wp2_with fail
    refine (M.out _).mono ?_
    rintro e w2 ⟨small, v, rfl, -, hw⟩
    subst hw
    simp only [Option.isSome_none]
    go_wp2
    go_ret
    have hs1 := hb1.size
    exact ⟨rfl, hb1.alloc hs1 _⟩
  | some x =>
    have P : Hid (∀ w1 : World, Calls Yba.prog 9 #[.string a0] w1 fun e w' => e = .returned (.tuple #[.agg #[.int .i64 (hi64 x), .int .u64 (lo64 x)], .bool true]) ∧ Below w1.heap.size w1 w') := by
      intro w1
      have h := parse_any a0 w1 w0
      rw [hp] at h
      exact h
    have M : Hid (∀ w1 : World, Calls Yba.prog 11 #[.string a0] w1 (Out (some x) w1)) := by
      intro w1
      have h := model_any a0 w1 (by omega)
      rw [hp] at h
      exact h
    clear hp
    go_enter Yba.func6, Yba.ntmps6
    go_wp2_with fail
    refine (P.out _).mono ?_
    rintro e w1 ⟨rfl, hb1⟩
    go_wp2_with fail
    refine (M.out _).mono ?_
    rintro e w2 ⟨small, v, rfl, hsm, hw⟩
    subst hw
    simp only [Option.isSome_some]
    have hs1 := hb1.size
    cases small with
    | false =>
      clear hsm
      go_wp2
      go_ret
      exact ⟨rfl, hb1.alloc hs1 _⟩
    | true =>
      obtain ⟨hx, v1, v2⟩ := hsm rfl
      obtain rfl : x = v := Option.some.inj hx
      clear hsm hx
      have e1 : hi64 x = x / 9223372036854775808 := by unfold hi64; omega
      have e2 : lo64 x = IntKind.u64.wrap x := by rw [IntKind.wrap_u64]; rfl
      go_wp2
      go_ret
      exact ⟨rfl, hb1.alloc hs1 _⟩

/-! ### THE ROW's STEP: WRITTEN OUT: LEAVE IT -/
set_option maxRecDepth 100000 in
theorem lifted (os : Os) (started : os.Started) (H : Type) (enc : TypeId × Value → H) :
    ReturnsInHanded {} Yba.checked os 6 .any (Rows.lawS3155BAcceptSpec.pre6 enc Yba.prog Yba.f6 Rows.lawS3155BAcceptRow.domain false) (Rows.lawS3155BAcceptSpec.post enc Yba.prog Yba.f6 false true false false) := by
  refine returnsInHanded_of_change (C := Yba.checked) own started (by kernel_rfl) Yba.func6
    (ChangeSpec.witness6 (enc := enc) (C := Yba.checked) false ⟨#[], #[.string ByteArray.empty], []⟩ 8 (by kernel_rfl) (by kernel_rfl) (by kernel_rfl) (by kernel_rfl)) ?_
  intro W base args ds gs before hval0 hW hcnd _
  have hval : ∀ (j : Nat) t v, Yba.f6.params[j]? = some t → args[j]? = some v → Value.okWide Yba.prog W .any base t v := hval0
  have hW' := hW
  obtain ⟨p, q, hA0, hV, rfl, hfz, hnd⟩ := hW
  have hA : DataW.TrodAll enc Yba.prog W 0 (fun _ => true) true Yba.f6.params.toList args.toList ds p := hA0
  rw [Yba.params6] at hA hval
  obtain ⟨v0, vs0, d0, ds0, p0, q0, hargs, rfl, rfl, h0, r0⟩ := trodAll_cons hA
  obtain ⟨rfl, rfl, rfl⟩ := trodAll_nil r0
  obtain rfl : args = #[v0] := by cases args; simp_all
  obtain ⟨rfl, rfl⟩ := trodVars_none hV
  obtain ⟨a0, rfl, rfl, rfl, w0⟩ := open_string Yba.underlying9 (hval 0 9 v0 rfl rfl) h0
  clear hA0 hval0
  refine (walk a0 w0 W).mono fun e W' ⟨he, bel⟩ => ?_
  subst he
  exact ⟨_, rfl, _, _, _, [], _, [], hW', trodAll_mk1 (shut_bool Yba.underlying4 _), (trodAll_cons_mk (shut_string Yba.underlying9 w0) trodAll_mk0), rfl, bel.frame _, fun h => by cases h⟩

theorem over : Rows.lawS3155BAcceptRow.holds Yba.pinned (OpenSpec.ofChange Rows.lawS3155BAcceptSpec) :=
  OpenClaim.holds_of_wide 6 Yba.f6 rfl rfl rfl rfl rfl rfl rfl ⟨rfl, rfl, rfl, rfl, rfl⟩ rfl rfl rfl rfl rfl (by kernel_rfl) Yba.func6 (by kernel_rfl)
    (of_decide_eq_true (by kernel_rfl)) (by unfold Func.isWrapper; first | (rw [if_pos (by decide +kernel)]; kernel_rfl) | (rw [if_neg (by decide +kernel)]; exact ⟨rfl, rfl⟩))
    (fun os started H enc _ => lifted os started H enc)

/-- ████ THE STATEMENT ████ -/
theorem proved : Rows.LawS3155BAcceptSaid :=
  over
#print axioms proved
end Go.Proofs.Ybulkbmhw.lawS3155BAccept
