/-
  THE WALKS OF isLetter, fmt.Errorf AT THIS FORMAT, checkAssetID AND zzs3155cwant.
-/
import Derived.Test.YbulkbmhwFmtRows
import Derived.Test.YbulkbmhwFmtPlain
import Derived.WalkKit
import Derived.WalkSpells
import Derived.WalkLawsBesides
import Derived.Stop.CallBack
import Derived.Stop.IfaceNil
namespace Go.Proofs.YbulkbmhwFmt
open Go.RowKit Go.Extern.Stop Go.Stop Go.Extern

/-! ### The closed facts for the stop -/
theorem call9 (args : Array Value) (w : World) : (callFunc 9 args).run Ybaf.prog w = ((FmtStop.errorf #[9, 31] #[23] args).run Ybaf.prog w).andThen fun v w' => .ok (.value v) w' :=
  run_callFunc_extern Ybaf.func9 (by kernel_rfl) (by kernel_rfl) (by kernel_rfl) (by kernel_rfl) args w
theorem guard (name : String) (w : World) : (FmtStop.guard name).run Ybaf.prog w = .ok () w := by kernel_rfl
theorem fmt0r (w : World) : (FmtDoors.printed ⟨#[37, 115, 32, 37, 113, 58, 32, 97, 110, 32, 97, 115, 115, 101, 116, 32, 105, 100, 32, 105, 115, 32, 49, 32, 116, 111, 32, 49, 54, 32, 65, 83, 67, 73, 73, 32, 108, 101, 116, 116, 101, 114, 115]⟩ 2).run Ybaf.prog w = .ok [(0, 115, false), (1, 113, false)] w := by kernel_rfl
theorem fmt0 : FmtStop.printed? ⟨#[37, 115, 32, 37, 113, 58, 32, 97, 110, 32, 97, 115, 115, 101, 116, 32, 105, 100, 32, 105, 115, 32, 49, 32, 116, 111, 32, 49, 54, 32, 65, 83, 67, 73, 73, 32, 108, 101, 116, 116, 101, 114, 115]⟩ 2 = some [(0, 115, false), (1, 113, false)] := by kernel_rfl
def shape9 : List UInt8 := [12, 6, 0, 0, 0, 0, 0, 0, 0, 115, 116, 114, 105, 110, 103]
theorem op9_115w (name : String) (x : ByteArray) (w : World) : (FmtStop.operand name true 115 false (.iface 9 (.string x))).run Ybaf.prog w = .ok (shape9, FmtStop.pack x.data.toList) w := by kernel_rfl
theorem op9_113w (name : String) (x : ByteArray) (w : World) : (FmtStop.operand name true 113 false (.iface 9 (.string x))).run Ybaf.prog w = .ok (shape9, FmtStop.pack x.data.toList) w := by kernel_rfl
theorem ptr34 (w : World) : (FmtStop.ptrTo "errors.errorString").run Ybaf.prog w = .ok 34 w := by kernel_rfl
theorem elem34 (w : World) : (elemOf 34).run Ybaf.prog w = .ok 36 w := by kernel_rfl
attribute [local go_sem] call9 guard fmt0r fmt0 op9_115w op9_113w ptr34 elem34

/-! ### isLetter -/
theorem letter_yes (c : Int) (w : World) (h : letB c = true) :
    Calls Ybaf.prog 7 #[.int .u8 c] w fun e w' => e = .returned (.bool true) ∧ w' = w := by
  have hh : (97 ≤ c ∧ c ≤ 122) ∨ (65 ≤ c ∧ c ≤ 90) := by simpa [letB] using h
  clear h
  rcases hh with ⟨h1, h2⟩ | ⟨h1, h2⟩
  · go_enter Ybaf.func7, Ybaf.ntmps7
    go_wp2
    go_ret
    exact ⟨rfl, rfl⟩
  · have h3 : c < 97 := by omega
    go_enter Ybaf.func7, Ybaf.ntmps7
    go_wp2
    go_ret
    exact ⟨rfl, rfl⟩
theorem letter_no (c : Int) (w : World) (h : letB c = false) :
    Calls Ybaf.prog 7 #[.int .u8 c] w fun e w' => e = .returned (.bool false) ∧ w' = w := by
  have hh : ¬ ((97 ≤ c ∧ c ≤ 122) ∨ (65 ≤ c ∧ c ≤ 90)) := by simp [letB] at h; omega
  clear h
  by_cases h1 : 97 ≤ c
  · have h2 : 122 < c := by omega
    have h3 : 65 ≤ c := by omega
    have h4 : 90 < c := by omega
    have e1 : decide (c ≤ 122) = false := by simp; omega
    have e2 : decide (c ≤ 90) = false := by simp; omega
    clear hh
    go_enter Ybaf.func7, Ybaf.ntmps7
    go_wp2
    go_ret
    exact ⟨rfl, rfl⟩
  · by_cases h3 : 65 ≤ c
    · have h4 : 90 < c := by omega
      have e2 : decide (c ≤ 90) = false := by simp; omega
      clear hh
      go_enter Ybaf.func7, Ybaf.ntmps7
      go_wp2
      go_ret
      exact ⟨rfl, rfl⟩
    · clear hh
      go_enter Ybaf.func7, Ybaf.ntmps7
      go_wp2
      go_ret
      exact ⟨rfl, rfl⟩
theorem letter_any (c : Int) (w : World) :
    Calls Ybaf.prog 7 #[.int .u8 c] w fun e w' => e = .returned (.bool (letB c)) ∧ w' = w := by
  cases h : letB c
  · exact letter_no c w h
  · exact letter_yes c w h

/-! ### fmt.Errorf at this format, two strings as operands -/
def reading (fd nm : List UInt8) : List (List UInt8) :=
  [[37, 115, 32, 37, 113, 58, 32, 97, 110, 32, 97, 115, 115, 101, 116, 32, 105, 100, 32, 105, 115, 32, 49, 32, 116, 111, 32, 49, 54, 32, 65, 83, 67, 73, 73, 32, 108, 101, 116, 116, 101, 114, 115], shape9, FmtStop.pack fd, shape9, FmtStop.pack nm]
theorem errorf_id (F : Interp) (fd nm : ByteArray) (b : Nat) (w : World) (hF : F.answers w.tape) (h0 : w.cell? ⟨b, 0, none⟩ = some (.iface 9 (.string fd))) (h1 : w.cell? ⟨b, 1, none⟩ = some (.iface 9 (.string nm))) :
    Calls Ybaf.prog 8 #[.string ⟨#[37, 115, 32, 37, 113, 58, 32, 97, 110, 32, 97, 115, 115, 101, 116, 32, 105, 100, 32, 105, 115, 32, 49, 32, 116, 111, 32, 49, 54, 32, 65, 83, 67, 73, 73, 32, 108, 101, 116, 116, 101, 114, 115]⟩, .slice (some ⟨b, 0, none⟩) 2 2] w fun e w' => e = .returned (.iface 34 (.pointer (some ⟨w.heap.size, 0, none⟩))) ∧
      w' = (w.alloc (.cells #[.string (FmtStop.textOf (F "fmt.errorf" (reading fd.data.toList nm.data.toList) 0))] 36)).drew := by
  have hF' := answers_open hF
  go_enter Ybaf.func8, Ybaf.ntmps8
  go_wp2
  go_ret
  exact ⟨rfl, rfl⟩

/-! ### checkAssetID -/
/-- The world behind a refusal: the variadic slice's block, the new error's block, one draw. -/
def refused (F : Interp) (fd nm : ByteArray) (w : World) : World :=
  ((w.alloc (.cells #[.iface 9 (.string fd), .iface 9 (.string nm)] 20)).alloc (.cells #[.string (FmtStop.textOf (F "fmt.errorf" (reading fd.data.toList nm.data.toList) 0))] 36)).drew

/-- what checkAssetID leaves -/
def Checks (F : Interp) (fd nm : ByteArray) (w : World) (e : Ending) (w' : World) : Prop :=
  (okId nm.data.toList = true ∧ e = .returned .nilIface ∧ w' = w) ∨
      (okId nm.data.toList = false ∧ e = .returned (.iface 34 (.pointer (some ⟨w.heap.size + 1, 0, none⟩))) ∧ w' = refused F fd nm w)

set_option maxHeartbeats 400000 in
theorem check_mid (F : Interp) (fd nm : ByteArray) (w : World) (hF : F.answers w.tape) (h1 : 1 ≤ nm.size) (h2 : nm.size ≤ 16) :
    Calls Ybaf.prog 5 #[.string fd, .string nm] w (Checks F fd nm w) := by
  go_enter Ybaf.func5, Ybaf.ntmps5
  go_wp2
  go_loop [5, 6] (fun ok i => ∃ k : Nat, k ≤ nm.size ∧ i = .int .i64 k ∧ ok = .bool (sofar nm.data.toList k)) (fun _ i => nm.size - (intOf i).toNat)
  case atStart => exact ⟨0, Nat.zero_le _, rfl, by rw [sofar_zero]; simp [h1, h2]; omega⟩
  case round =>
    obtain ⟨k, hk, rfl, rfl⟩ := hrel
    cases hs : sofar nm.data.toList k
    · go_wp2_with (first | (go_at_call 8; refine (errorf_id F fd nm _ _ (by exact hF) (by go_simp) (by go_simp)).mono ?_; rintro e w' ⟨rfl, rfl⟩))
      go_ret
      exact Or.inr ⟨sofar_false _ _ hs, rfl, rfl⟩
    · by_cases hlt : k < nm.size
      · have HS : Hid (sofar nm.data.toList (k + 1) = letB nm[k].toNat) := sofar_succ nm k hlt hs
        clear hs
        go_wp2_with (first | (go_at_call 7; refine (letter_any _ _).mono ?_; rintro e w' ⟨rfl, rfl⟩))
        go_round
        case rel => exact ⟨k + 1, by omega, by go_num, by rw [HS.out]⟩
        case measure => simp [intOf]; omega
      · have HS : Hid (okId nm.data.toList = true) := by
          show okId nm.data.toList = true
          rw [← hs]; exact (sofar_whole _ _ (by simp; omega)).symm
        clear hs
        go_wp2
        go_ret
        exact Or.inl ⟨HS.out, rfl, rfl⟩

theorem okId_len (s : ByteArray) (h : s.size < 1 ∨ 16 < s.size) : okId s.data.toList = false := by
  unfold okId; rw [Bool.and_eq_false_iff]; left; simp; omega

set_option maxHeartbeats 400000 in
theorem check_long (F : Interp) (fd nm : ByteArray) (w : World) (hF : F.answers w.tape) (hn : nm.size ≤ maxLen) (h2 : 16 < nm.size) :
    Calls Ybaf.prog 5 #[.string fd, .string nm] w (Checks F fd nm w) := by
  unfold maxLen at hn
  have hd : decide ((nm.size : Int) ≤ 16) = false := by simp; omega
  have HO : Hid (okId nm.data.toList = false) := okId_len nm (Or.inr h2)
  go_enter Ybaf.func5, Ybaf.ntmps5
  go_wp2
  go_loop [5, 6] (fun ok i => ok = .bool false ∧ i = .int .i64 0) (fun _ i => nm.size - (intOf i).toNat)
  case atStart => exact ⟨rfl, rfl⟩
  case round =>
    obtain ⟨rfl, rfl⟩ := hrel
    go_wp2_with (first | (go_at_call 8; refine (errorf_id F fd nm _ _ (by exact hF) (by go_simp) (by go_simp)).mono ?_; rintro e w' ⟨rfl, rfl⟩))
    go_ret
    exact Or.inr ⟨HO.out, rfl, rfl⟩

set_option maxHeartbeats 400000 in
theorem check_none (F : Interp) (fd nm : ByteArray) (w : World) (hF : F.answers w.tape) (h2 : nm.size < 1) :
    Calls Ybaf.prog 5 #[.string fd, .string nm] w (Checks F fd nm w) := by
  have hd : decide (1 ≤ (nm.size : Int)) = false := by simp; omega
  have HO : Hid (okId nm.data.toList = false) := okId_len nm (Or.inl h2)
  go_enter Ybaf.func5, Ybaf.ntmps5
  go_wp2
  go_loop [5, 6] (fun ok i => ok = .bool false ∧ i = .int .i64 0) (fun _ i => nm.size - (intOf i).toNat)
  case atStart => exact ⟨rfl, rfl⟩
  case round =>
    obtain ⟨rfl, rfl⟩ := hrel
    go_wp2_with (first | (go_at_call 8; refine (errorf_id F fd nm _ _ (by exact hF) (by go_simp) (by go_simp)).mono ?_; rintro e w' ⟨rfl, rfl⟩))
    go_ret
    exact Or.inr ⟨HO.out, rfl, rfl⟩

theorem check_any (F : Interp) (fd nm : ByteArray) (w : World) (hF : F.answers w.tape) (hn : nm.size ≤ maxLen) :
    Calls Ybaf.prog 5 #[.string fd, .string nm] w (Checks F fd nm w) := by
  by_cases h1 : nm.size < 1
  · exact check_none F fd nm w hF h1
  · by_cases h2 : 16 < nm.size
    · exact check_long F fd nm w hF hn h2
    · exact check_mid F fd nm w hF (by omega) (by omega)

/-! ### zzs3155cwant -/
set_option maxHeartbeats 400000 in
theorem want_mid (nm : ByteArray) (w : World) (h1 : 1 ≤ nm.size) (h2 : nm.size ≤ 16) :
    Calls Ybaf.prog 6 #[.string nm] w fun e w' => e = .returned (.bool (okId nm.data.toList)) ∧ w' = w := by
  go_enter Ybaf.func6, Ybaf.ntmps6
  go_wp2
  go_loop [3] (fun i => ∃ k : Nat, k ≤ nm.size ∧ i = .int .i64 k ∧ sofar nm.data.toList k = true) (fun i => nm.size - (intOf i).toNat)
  case atStart => exact ⟨0, Nat.zero_le _, rfl, by rw [sofar_zero]; simp [h1, h2]⟩
  case round =>
    obtain ⟨k, hk, rfl, hs⟩ := hrel
    by_cases hlt : k < nm.size
    · have HS : Hid (sofar nm.data.toList (k + 1) = letB nm[k].toNat) := sofar_succ nm k hlt hs
      clear hs
      by_cases a1 : (nm[k].toNat : Int) < 65
      · go_wp2
        go_ret
        exact ⟨by rw [sofar_false _ (k + 1) (by rw [HS.out]; simp [letB]; omega)]; rfl, rfl⟩
      by_cases a2 : (nm[k].toNat : Int) ≤ 90
      · go_wp2
        go_round
        case rel => exact ⟨k + 1, by omega, by go_num, by rw [HS.out]; simp [letB]; omega⟩
        case measure => simp [intOf]; omega
      have d2 : decide ((nm[k].toNat : Int) ≤ 90) = false := by simpa using a2
      by_cases a3 : (nm[k].toNat : Int) < 97
      · go_wp2
        go_ret
        exact ⟨by rw [sofar_false _ (k + 1) (by rw [HS.out]; simp [letB]; omega)]; rfl, rfl⟩
      by_cases a4 : (nm[k].toNat : Int) ≤ 122
      · go_wp2
        go_round
        case rel => exact ⟨k + 1, by omega, by go_num, by rw [HS.out]; simp [letB]; omega⟩
        case measure => simp [intOf]; omega
      have d4 : decide ((nm[k].toNat : Int) ≤ 122) = false := by simpa using a4
      · go_wp2
        go_ret
        exact ⟨by rw [sofar_false _ (k + 1) (by rw [HS.out]; simp [letB]; omega)]; rfl, rfl⟩
    · have HS : Hid (okId nm.data.toList = true) := by
        show okId nm.data.toList = true
        rw [← hs]; exact (sofar_whole _ _ (by simp; omega)).symm
      clear hs
      go_wp2
      go_ret
      exact ⟨by rw [HS.out]; rfl, rfl⟩

set_option maxHeartbeats 400000 in
theorem want_out (nm : ByteArray) (w : World) (hn : nm.size ≤ maxLen) (h : nm.size < 1 ∨ 16 < nm.size) :
    Calls Ybaf.prog 6 #[.string nm] w fun e w' => e = .returned (.bool (okId nm.data.toList)) ∧ w' = w := by
  unfold maxLen at hn
  rw [okId_len nm h]
  rcases h with h | h
  · go_enter Ybaf.func6, Ybaf.ntmps6
    go_wp2
    go_ret
    exact ⟨rfl, rfl⟩
  · go_enter Ybaf.func6, Ybaf.ntmps6
    go_wp2
    go_ret
    exact ⟨rfl, rfl⟩

theorem want_any (nm : ByteArray) (w : World) (hn : nm.size ≤ maxLen) :
    Calls Ybaf.prog 6 #[.string nm] w fun e w' => e = .returned (.bool (okId nm.data.toList)) ∧ w' = w := by
  by_cases h : nm.size < 1 ∨ 16 < nm.size
  · exact want_out nm w hn h
  · exact want_mid nm w (by omega) (by omega)
end Go.Proofs.YbulkbmhwFmt
