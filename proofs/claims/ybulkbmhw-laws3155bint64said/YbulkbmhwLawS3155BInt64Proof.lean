/-
  PROOF OF 'Rows.LawS3155BInt64Said'. The frame is the seat's given shell (written by program at this function's number and types); the walk is typed by the seat's prover.
-/
import Derived.Test.YbulkbmhwText
import Derived.WalkKit
import Derived.ProofKit
import Derived.OpenShut
import Derived.ShutString
namespace Go.Proofs.Ybulkbmhw.lawS3155BInt64
open Go.ChangeShapes Go.WideShapes Go.ChangeAt Go.RowKit
open Go.ChangeMaps (open_string shut_string)
set_option linter.unusedVariables false      -- a walk need not use every 'w<i>' (that an integer argument fits its kind)

theorem own : ownKnob Yba.prog.godebug = none := by kernel_rfl

/-! ### THE PLAIN LAW: a text of digits behind noughts parses to its value -/
theorem val_noughts (z : Nat) (dd : List UInt8) : val (List.replicate z 48 ++ dd) = val dd := by
  induction z with
  | zero => simp
  | succ z ih =>
    rw [List.replicate_succ, List.cons_append, val_cons, ih]
    have : ((48 : UInt8).toNat : Int) - 48 = 0 := by decide
    rw [this, Int.zero_mul, Int.zero_add]
theorem digs_noughts (z : Nat) (dd : List UInt8) (h : digs dd = true) : digs (List.replicate z 48 ++ dd) = true := by
  induction z with
  | zero => simpa using h
  | succ z ih =>
    rw [List.replicate_succ, List.cons_append, digs_cons, ih]
    decide

theorem parseV_digs (l : List UInt8) (hd : digs l = true) : parseV l = bodyV l := by
  cases l with
  | nil => simp [parseV, bodyV]
  | cons c t =>
    have : c ≠ 45 := by
      rintro rfl
      rw [digs_cons, Bool.and_eq_true] at hd
      exact absurd hd.1 (by decide)
    simp [parseV, this]

theorem parse_text_pos {n : Int} {z : Nat} {dd : List UInt8} (hv : val dd = n) (hd : digs dd = true) (hne : dd ≠ []) (hn : n ≤ 9223372036854775808) : parseV ([] ++ List.replicate z 48 ++ dd) = some n := by
  rw [List.nil_append, parseV_digs _ (digs_noughts z dd hd), bodyV_some _ (by simp [hne]) (digs_noughts z dd hd) (by rw [val_noughts]; omega), val_noughts, hv]
theorem parse_text_neg {n : Int} {z : Nat} {dd : List UInt8} (hv : val dd = -n) (hd : digs dd = true) (hne : dd ≠ []) (hn : -9223372036854775808 ≤ n) : parseV ([45] ++ List.replicate z 48 ++ dd) = some n := by
  have : parseV ([45] ++ List.replicate z 48 ++ dd) = (bodyV (List.replicate z 48 ++ dd)).map fun v => -v := rfl
  rw [this, bodyV_some _ (by simp [hne]) (digs_noughts z dd hd) (by rw [val_noughts]; omega), val_noughts, hv]
  simp

/-! ### STEP 1: THE WALK -/
set_option maxHeartbeats 400000 in
theorem int64_walk (n a1 : Int) (w : World) (h0 : -9223372036854775808 ≤ n) (h1 : n ≤ 9223372036854775807) (z0 : 0 ≤ a1) (z1 : a1 ≤ 255) :
    Calls Yba.prog 5 #[.int .i64 n, .int .u8 a1] w fun e w' => e = .returned (.bool true) ∧ Below w.heap.size w w' := by
  obtain ⟨z, hz⟩ := Int.eq_ofNat_of_zero_le (show 0 ≤ a1 % 8 by omega)
  have hz7 : z ≤ 7 := by omega
  have e1 : hi64 n = n / 9223372036854775808 := by unfold hi64; omega
  by_cases hn : n < 0
  · have e2 : lo64 n = IntKind.u64.wrap n := by rw [IntKind.wrap_u64]; rfl
    go_enter Yba.func5, Yba.ntmps5
    go_wp2_with fail
    refine (text_neg n z _ hn h0 hz7).mono ?_
    rintro e w1 ⟨dd, nm, rfl, hnm, hv, hd, hne, hl, hb1⟩
    have hp := parse_text_neg (z := z) hv hd hne (by omega)
    have hsz : nm.size ≤ maxLen := by
      have e1 : nm.data.toList.length = nm.size := by simp
      rw [hnm] at e1
      simp at e1
      unfold maxLen; omega
    rw [← hnm] at hp
    have HP : Hid (parseV nm.data.toList = some n) := hp
    clear hp hnm hv hd hne hl
    go_wp2_with fail
    refine (parse_any nm w1 hsz).mono ?_
    rw [HP.out]
    rintro e w2 ⟨rfl, hb2⟩
    unfold parsed
    go_wp2
    go_ret
    have hs1 := hb1.size
    have hs2 := hb2.size
    exact ⟨rfl, (hb1.trans (hb2.mono hs1)).alloc (by omega) _⟩
  · have e2 : lo64 n = n := by unfold lo64; omega
    go_enter Yba.func5, Yba.ntmps5
    go_wp2_with fail
    refine (text_pos n z _ (by omega) h1 hz7).mono ?_
    rintro e w1 ⟨dd, nm, rfl, hnm, hv, hd, hne, hl, hb1⟩
    have hp := parse_text_pos (z := z) hv hd hne (by omega)
    have hsz : nm.size ≤ maxLen := by
      have e1 : nm.data.toList.length = nm.size := by simp
      rw [hnm] at e1
      simp at e1
      unfold maxLen; omega
    rw [← hnm] at hp
    have HP : Hid (parseV nm.data.toList = some n) := hp
    clear hp hnm hv hd hne hl
    go_wp2_with fail
    refine (parse_any nm w1 hsz).mono ?_
    rw [HP.out]
    rintro e w2 ⟨rfl, hb2⟩
    unfold parsed
    go_wp2
    go_ret
    have hs1 := hb1.size
    have hs2 := hb2.size
    exact ⟨rfl, (hb1.trans (hb2.mono hs1)).alloc (by omega) _⟩

theorem walk (a0 : Int) (a1 : Int) (w0 : (Lit.int .i64 a0).wf = true) (w1 : (Lit.int .u8 a1).wf = true) (w : World) :
    Calls Yba.prog 5 #[.int .i64 a0, .int .u8 a1] w fun e w' => e = .returned (.bool true) ∧ Below w.heap.size w w' := by
  simp [Lit.wf, IntKind.min, IntKind.max, IntKind.signed, IntKind.bits] at w0 w1
  exact int64_walk a0 a1 w (by omega) (by omega) (by omega) (by omega)

/-! ### THE ROW's STEP: WRITTEN OUT: LEAVE IT -/
set_option maxRecDepth 100000 in
theorem lifted (os : Os) (started : os.Started) (H : Type) (enc : TypeId × Value → H) :
    ReturnsInHanded {} Yba.checked os 5 .any (Rows.lawS3155BInt64Spec.pre6 enc Yba.prog Yba.f5 Rows.lawS3155BInt64Row.domain false) (Rows.lawS3155BInt64Spec.post enc Yba.prog Yba.f5 false true false false) := by
  refine returnsInHanded_of_change (C := Yba.checked) own started (by kernel_rfl) Yba.func5
    (ChangeSpec.witness6 (enc := enc) (C := Yba.checked) false ⟨#[], #[.int .i64 0, .int .u8 0], []⟩ 8 (by kernel_rfl) (by kernel_rfl) (by kernel_rfl) (by kernel_rfl)) ?_
  intro W base args ds gs before hval0 hW hcnd _
  have hval : ∀ (j : Nat) t v, Yba.f5.params[j]? = some t → args[j]? = some v → Value.okWide Yba.prog W .any base t v := hval0
  have hW' := hW
  obtain ⟨p, q, hA0, hV, rfl, hfz, hnd⟩ := hW
  have hA : DataW.TrodAll enc Yba.prog W 0 (fun _ => true) true Yba.f5.params.toList args.toList ds p := hA0
  rw [Yba.params5] at hA hval
  obtain ⟨v0, vs0, d0, ds0, p0, q0, hargs, rfl, rfl, h0, r0⟩ := trodAll_cons hA
  obtain ⟨v1, vs1, d1, ds1, p1, q1, rfl, rfl, rfl, h1, r1⟩ := trodAll_cons r0
  obtain ⟨rfl, rfl, rfl⟩ := trodAll_nil r1
  obtain rfl : args = #[v0, v1] := by cases args; simp_all
  obtain ⟨rfl, rfl⟩ := trodVars_none hV
  obtain ⟨a0, rfl, rfl, rfl, w0⟩ := open_int Yba.underlying2 (hval 0 2 v0 rfl rfl) h0
  obtain ⟨a1, rfl, rfl, rfl, w1⟩ := open_int Yba.underlying5 (hval 1 5 v1 rfl rfl) h1
  clear hA0 hval0
  refine (walk a0 a1 w0 w1 W).mono fun e W' ⟨he, bel⟩ => ?_
  subst he
  exact ⟨_, rfl, _, _, _, [], _, [], hW', trodAll_mk1 (shut_bool Yba.underlying4 _), (trodAll_cons_mk (shut_int Yba.underlying2 w0) (trodAll_cons_mk (shut_int Yba.underlying5 w1) trodAll_mk0)), rfl, bel.frame _, fun h => by cases h⟩

theorem over : Rows.lawS3155BInt64Row.holds Yba.pinned (OpenSpec.ofChange Rows.lawS3155BInt64Spec) :=
  OpenClaim.holds_of_wide 5 Yba.f5 rfl rfl rfl rfl rfl rfl rfl ⟨rfl, rfl, rfl, rfl, rfl⟩ rfl rfl rfl rfl rfl (by kernel_rfl) Yba.func5 (by kernel_rfl)
    (of_decide_eq_true (by kernel_rfl)) (by unfold Func.isWrapper; first | (rw [if_pos (by decide +kernel)]; kernel_rfl) | (rw [if_neg (by decide +kernel)]; exact ⟨rfl, rfl⟩))
    (fun os started H enc _ => lifted os started H enc)

/-- ████ THE STATEMENT ████ -/
theorem proved : Rows.LawS3155BInt64Said :=
  over
#print axioms proved
end Go.Proofs.Ybulkbmhw.lawS3155BInt64
