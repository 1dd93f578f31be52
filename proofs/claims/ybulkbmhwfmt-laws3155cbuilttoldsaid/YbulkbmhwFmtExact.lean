/-
  THE WALK OF LawS3155CExact, THE ROW's STEP AND THE TOLD CARD.
-/
import Derived.Test.YbulkbmhwFmtCheck
import Derived.Test.YbulkbmhwFmtCards
import Derived.Deep.QuietTactic
import Derived.BigQuiet
import Derived.ProofKit
import Derived.OpenShut
import Derived.ShutString
import Derived.Stop.JoinedAt
import Derived.Stop.Texts
import Derived.Stop.ErrReads
import Derived.Stop.JoinedTold
import Derived.SevenToldRow
namespace Go.Proofs.YbulkbmhwFmt
open Go.RowKit Go.Extern.Stop Go.Stop Go.Extern

theorem check_yes (F : Interp) (fd nm : ByteArray) (w : World) (hF : F.answers w.tape) (hn : nm.size ≤ maxLen) (hk : okId nm.data.toList = true) :
    Calls Ybaf.prog 5 #[.string fd, .string nm] w fun e w' => e = .returned .nilIface ∧ w' = w := by
  refine (check_any F fd nm w hF hn).mono ?_
  rintro e w' (⟨_, h1, h2⟩ | ⟨h, _⟩)
  · exact ⟨h1, h2⟩
  · rw [hk] at h; cases h
theorem check_no (F : Interp) (fd nm : ByteArray) (w : World) (hF : F.answers w.tape) (hn : nm.size ≤ maxLen) (hk : okId nm.data.toList = false) :
    Calls Ybaf.prog 5 #[.string fd, .string nm] w fun e w' => e = .returned (.iface 34 (.pointer (some ⟨w.heap.size + 1, 0, none⟩))) ∧ w' = refused F fd nm w := by
  refine (check_any F fd nm w hF hn).mono ?_
  rintro e w' (⟨h, _⟩ | ⟨_, h1, h2⟩)
  · rw [hk] at h; cases h
  · exact ⟨h1, h2⟩

theorem grown_refused (F : Interp) (fd nm : ByteArray) (w : World) : Grown w (refused F fd nm w) := by
  unfold refused
  exact Grown.drew (((Grown.refl w).alloc _ _).alloc _ _)
theorem grown_drewN {w w1 : World} (h : Grown w w1) (n : Nat) : Grown w (w1.drewN n) := h

/-! ### Lines that every row over a stop wants -/
theorem own : ownKnob Ybaf.prog.godebug = none := by kernel_rfl
theorem laidOut : laidOutB Ybaf.pinned.checked.prog = true := by kernel_rfl
theorem stops : Ybaf.pinned.checked.prog.stops = ["fmt.errorf"] := by kernel_rfl
theorem stopKnobs : Ybaf.pinned.checked.prog.stopKnobs = [] := by kernel_rfl
theorem quiet (os : Os) : Stop.quiet Ybaf.pinned.checked.prog os := by
  intro k hk
  rw [stopKnobs] at hk
  cases hk

namespace lawS3155CExact
set_option maxHeartbeats 400000 in
theorem walk (F : Interp) (fd nm : ByteArray) (w : World) (hF : F.answers w.tape) (hf : fd.size ≤ maxLen) (hn : nm.size ≤ maxLen) :
    Calls Ybaf.prog 3 #[.string fd, .string nm] w fun e w' => e = .returned (.bool true) ∧ Grown w w' := by
  have hnn := hn
  unfold maxLen at hf hn
  by_cases h1 : 4096 < nm.size
  · go_enter Ybaf.func3, Ybaf.ntmps3
    go_wp2
    go_ret
    exact ⟨rfl, Grown.refl _⟩
  by_cases h2 : 4096 < fd.size
  · go_enter Ybaf.func3, Ybaf.ntmps3
    go_wp2
    go_ret
    exact ⟨rfl, Grown.refl _⟩
  cases hk : okId nm.data.toList
  · have hg := grown_refused F fd nm w
    go_enter Ybaf.func3, Ybaf.ntmps3
    go_wp2_with (first | (go_at_call 5; refine (check_no F _ _ _ (by exact hF) hnn hk).mono ?_; rintro e w' ⟨rfl, rfl⟩))
    generalize refused F fd nm w = w1 at *
    go_quiet ((go_at_call 6; exact Calls.quiet_of_same (want_any _ _ hnn)))
    go_wp2
    go_ret
    exact ⟨rfl, grown_drewN hg _⟩
  · go_enter Ybaf.func3, Ybaf.ntmps3
    go_wp2_with (first | (go_at_call 5; refine (check_yes F _ _ _ (by exact hF) hnn hk).mono ?_; rintro e w' ⟨rfl, rfl⟩))
    go_quiet ((go_at_call 6; exact Calls.quiet_of_same (want_any _ _ hnn)))
    go_wp2
    go_ret
    exact ⟨rfl, grown_drewN (Grown.refl _) _⟩

open Go.ChangeShapes Go.WideShapes Go.ChangeAt Go.Kit
open Go.ChangeMaps (open_string shut_string)

set_option maxRecDepth 100000 in
theorem lifted (os : Os) (started : os.Started) (H : Type) (enc : TypeId × Value → H) :
    ReturnsInTold none {} Ybaf.checked os 3 .any Input.okWide ((OpenSpec.ofChange Rows.lawS3155CExactSpec).preRow enc Ybaf.prog Ybaf.f3 [] false []) (fun F => ((OpenSpec.ofChange Rows.lawS3155CExactSpec).at F).post enc Ybaf.prog Ybaf.f3 false true false false) (aloneAtReturn Ybaf.prog) nothingAlways := by
  refine returnsInTold_of_row (C := Ybaf.checked) (s := OpenSpec.ofChange Rows.lawS3155CExactSpec) (by kernel_rfl) own started (by kernel_rfl) Ybaf.func3
    (OpenSpec.witness_stopped (enc := enc) (C := Ybaf.checked) false ⟨#[], #[.string ByteArray.empty, .string ByteArray.empty], []⟩ 8 (by kernel_rfl) (by kernel_rfl) (by kernel_rfl) (by kernel_rfl)) ?_
  intro F W base args ds gs before _ hF hval0 hW _ _ _ _ _
  have hval : ∀ (j : Nat) t v, Ybaf.f3.params[j]? = some t → args[j]? = some v → Value.okWide Ybaf.prog W .any base t v := hval0
  have hW' := hW
  obtain ⟨p, q, hA0, hV, rfl, hfz, hnd⟩ := hW
  have hA : DataW.TrodAll enc Ybaf.prog W 0 (fun _ => true) true Ybaf.f3.params.toList args.toList ds p := hA0
  rw [Ybaf.params3] at hA hval
  obtain ⟨v0, v1, d0, d1, p0, p1, rfl, rfl, rfl, h0, h1⟩ := trodAll_two hA
  obtain ⟨rfl, rfl⟩ := trodVars_none hV
  obtain ⟨fd, rfl, rfl, rfl, wf⟩ := open_string Ybaf.underlying9 (hval 0 9 v0 rfl rfl) h0
  obtain ⟨nm, rfl, rfl, rfl, wn⟩ := open_string Ybaf.underlying9 (hval 1 9 v1 rfl rfl) h1
  clear hA0 hval0
  simp only [List.append_nil] at hW'
  refine (walk F.told fd nm W hF wf wn).mono fun e W' ⟨he, hg⟩ => ?_
  subst he
  exact ⟨_, rfl, post_of_same (pa := []) (pv := []) hW' (fun _ _ _ => trodAll_mk1 (shut_bool Ybaf.underlying4 _)) (fun sp _ => trodAll_mk2 (shut_string Ybaf.underlying9 wf) (shut_string Ybaf.underlying9 wn)) (fun _ _ => rfl) rfl
    (hg.frame _) hg.2.1 (ok_one (by kernel_rfl) rfl (okWide_bool_mk Ybaf.underlying4 _))⟩

theorem proved : Rows.LawS3155CExactToldSaid :=
  Claim7.holds_of_told_any 3 Ybaf.f3 "fmt.errorf" [] [] _ _ _ (by kernel_rfl) rfl rfl rfl laidOut (by kernel_rfl) rfl ⟨rfl, rfl, rfl, rfl, rfl, rfl, rfl⟩ rfl rfl (by kernel_rfl) (by kernel_rfl) Ybaf.func3 (by kernel_rfl)
    (of_decide_eq_true (by kernel_rfl)) (of_decide_eq_true (by kernel_rfl)) stops.symm rfl stopKnobs.symm (by kernel_rfl)
    (by kernel_rfl) (by kernel_rfl) (by kernel_rfl) (by kernel_rfl) (by kernel_rfl) (by kernel_rfl) (by kernel_rfl) (by kernel_rfl) (by kernel_rfl) rfl (by kernel_rfl) rfl rfl
    rfl rfl
    rfl (by kernel_rfl) (by kernel_rfl) (by kernel_rfl) (by decide) (by kernel_rfl)
    (OpenClaim.moreEntering_of (by kernel_rfl) (by kernel_rfl) (by kernel_rfl) (by kernel_rfl) (by kernel_rfl) (by kernel_rfl) (by kernel_rfl) (by kernel_rfl) (by kernel_rfl) (by kernel_rfl))
    ⟨_, WideRow.started_initial, quiet _⟩
    (fun os started _ H enc _ => lifted os started H enc)
#print axioms proved
end lawS3155CExact
end Go.Proofs.YbulkbmhwFmt
