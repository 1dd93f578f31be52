/-
  THE WALK OF LawS3155CBuilt.
-/
import Derived.Test.YbulkbmhwFmtExact
import Derived.Test.YbulkbmhwFmtTable
import Derived.ChangeOld
import Derived.Below
import Derived.Laws.IdiomStrings
namespace Go.Proofs.YbulkbmhwFmt
open Go.RowKit Go.Extern.Stop Go.Stop Go.Extern

theorem info5 : (Ybaf.prog.info? 5).map (fun i => (i.zero, i.size, i.bytes)) = some (some (.int .u8 0), 1, 1) := by kernel_rfl

def B8 (c : UInt8) : Value := .int .u8 (c.toNat : Nat)

theorem tbl_index : ∀ k : Fin 63, (ByteArray.mk #[97, 98, 99, 100, 101, 102, 103, 104, 105, 106, 107, 108, 109, 110, 111, 112, 113, 114, 115, 116, 117, 118, 119, 120, 121, 122, 65, 66, 67, 68, 69, 70, 71, 72, 73, 74, 75, 76, 77, 78, 79, 80, 81, 82, 83, 84, 85, 86, 87, 88, 89, 90, 48, 64, 91, 96, 123, 57, 95, 45, 32, 128, 255])[k.val]'(k.isLt) = tb k.val := by decide
theorem tbl_get (q : Nat) (h : q < (ByteArray.mk #[97, 98, 99, 100, 101, 102, 103, 104, 105, 106, 107, 108, 109, 110, 111, 112, 113, 114, 115, 116, 117, 118, 119, 120, 121, 122, 65, 66, 67, 68, 69, 70, 71, 72, 73, 74, 75, 76, 77, 78, 79, 80, 81, 82, 83, 84, 85, 86, 87, 88, 89, 90, 48, 64, 91, 96, 123, 57, 95, 45, 32, 128, 255]).size) :
    (ByteArray.mk #[97, 98, 99, 100, 101, 102, 103, 104, 105, 106, 107, 108, 109, 110, 111, 112, 113, 114, 115, 116, 117, 118, 119, 120, 121, 122, 65, 66, 67, 68, 69, 70, 71, 72, 73, 74, 75, 76, 77, 78, 79, 80, 81, 82, 83, 84, 85, 86, 87, 88, 89, 90, 48, 64, 91, 96, 123, 57, 95, 45, 32, 128, 255])[q]'h = tb q := tbl_index ⟨q, h⟩
attribute [local go_sem] tbl_get

theorem one_int (k : IntKind) (n : Int) : ∀ u ∈ [Value.int k n], u.oneCell' = true := by
  intro u hu; simp at hu; subst hu; rfl

theorem owns_cells {w : World} {g n cap : Nat} {l : List UInt8} (h : w.ownsRow g 5 1 (.slice (some ⟨g, 0, none⟩) n cap) n (l.map B8)) :
    ∀ j (hj : j < l.length), w.cell? ((⟨g, 0, none⟩ : Addr).add j) = some (.int .u8 (l[j].toNat : Int)) := by
  obtain ⟨hlen, h⟩ := h
  rcases h with ⟨h, _⟩ | ⟨g', cap', cur, hv, _, hcur, _, _, _, htake⟩
  · cases h
  · cases hv
    intro j hj
    have e1 : (cur.toList.take (n * 1))[j]? = some (B8 l[j]) := by rw [htake]; simp [hj]
    have hjn : j < n * 1 := by rw [← hlen]; simpa using hj
    rw [List.getElem?_take_of_lt hjn] at e1
    rw [Go.WideShapes.add_plain, Nat.zero_add]
    simp [World.cell?, hcur]
    simpa [B8] using e1

/-- 'string(b)': the built id. -/
theorem id_made (w : World) (g k : Nat) (zs : List Int) (hz : k ≤ zs.length) (h : w.ownsRow g 5 1 (.slice (some ⟨g, 0, none⟩) k k) k ((built (zs.take k)).map B8)) :
    ∃ nm : ByteArray, nm.data.toList = built (zs.take k) ∧ (convert 27 9 (.slice (some ⟨g, 0, none⟩) k k)).run Ybaf.prog w = .ok (.string nm) w := by
  refine ⟨⟨(built (zs.take k)).toArray⟩, rfl, ?_⟩
  have hr := run_convert_bytes_back (P := Ybaf.prog) w 27 9 5 ⟨g, 0, none⟩ k (built (zs.take k)) Ybaf.underlying27 Ybaf.underlying5 Ybaf.underlying9 (owns_cells h)
  rw [built_length, List.length_take, Nat.min_eq_left hz] at hr
  exact hr

theorem below_refused (F : Interp) (fd nm : ByteArray) {w wr : World} (h : Below w.heap.size w wr) : Below w.heap.size w (refused F fd nm wr) := by
  have hs := h.size
  unfold refused
  exact ((h.alloc hs _).alloc (by simp; omega) _).drew

namespace lawS3155CBuilt
set_option maxHeartbeats 400000 in
theorem walk_some (F : Interp) (fd : ByteArray) (b off len cap : Nat) (zs : List Int) (w : World) (hF : F.answers w.tape) (hf : fd.size ≤ maxLen) (hl : len ≤ 1024) (h2 : fd.size ≤ 4096)
    (hz : len ≤ zs.length) (hb : b < w.heap.size) (hc : ∀ j, j < len → w.cell? ⟨b, off + j, none⟩ = some (.int .u8 (zs.getD j 0))) (hw8 : ∀ j, 0 ≤ zs.getD j 0 ∧ zs.getD j 0 ≤ 255) :
    Calls Ybaf.prog 4 #[.string fd, .slice (some ⟨b, off, none⟩) len cap] w fun e w' => e = .returned (.bool true) ∧ Below w.heap.size w w' := by
  obtain ⟨i0, hi, hz0, hz1, hz2⟩ := info_parts info5
  unfold maxLen at hf
  go_enter Ybaf.func4, Ybaf.ntmps4
  go_wp2_with (at_make; refine wpList_make_own _ rfl _ _ 27 rfl w.heap.size 5 i0 (.int .u8 0) 1 Ybaf.underlying27 hi hz0 hz1 _ _ _ len rfl rfl (by omega) ?b2 ?b3 (Nat.le_refl _) ?_)
  case b2 => rw [hz2]; omega
  case b3 => unfold maxLen; omega
  intro w0 hown0 hgrow0
  go_wp2
  go_loopw [5, 6, 26] (fun bv al i wr => ∃ k : Nat, k ≤ len ∧ i = .int .i64 k ∧ bv = .slice (some ⟨w.heap.size, 0, none⟩) k len ∧ al = .bool (allL (zs.take k)) ∧
      wr.ownsRow w.heap.size 5 1 (.slice (some ⟨w.heap.size, 0, none⟩) k len) k ((built (zs.take k)).map B8) ∧ Below w.heap.size w wr)
    (fun _ _ i _ => len - (intOf i).toNat)
  case atStart => exact ⟨0, Nat.zero_le _, rfl, rfl, rfl, hown0, (Below.refl _ _).grown hgrow0 (Nat.le_refl _) (fun k h => by cases h)⟩
  case round =>
    obtain ⟨k, hk, rfl, rfl, rfl, hown, hnx⟩ := hrel
    by_cases hlt : k < len
    · have hcell : wr.cell? ⟨b, off + k, none⟩ = some (.int .u8 (zs.getD k 0)) := (hnx.cell (by exact hb)).trans (hc k hlt)
      obtain ⟨l8, u8⟩ := hw8 k
      have HZ := takeI_snoc zs k (by omega)
      generalize zs.getD k 0 = z at *
      have HS : Hid (zs.take (k + 1) = zs.take k ++ [z]) := HZ
      by_cases hp : 52 ≤ z % 63
      · go_wp2_with (at_builtin; refine wpList_append_fits _ rfl (.tmp 35) (.tmp 38) 27 rfl w.heap.size 5 i0 1 Ybaf.underlying27 hi hz1 w.heap.size k len _ rfl (hown.alloc _) ⟨wr.heap.size, 0, none⟩ 1 1 [.int .u8 ((tb (z % 63).toNat).toNat : Nat)] rfl rfl (cell_one_new _ _ _) (one_int _ _) (by omega) ?_; intro w1 hown1 hgrow1)
        go_roundw
        case rel => exact ⟨k + 1, by omega, by go_num, rfl, by rw [HS.out, allL_snoc]; simp; omega, by rw [HS.out, built_snoc, List.map_append]; exact hown1, (hnx.alloc hnx.size _).grown hgrow1 (by simp; have := hnx.size; omega) (fun k hk => by cases hk; exact Nat.le_refl _)⟩
        case measure => simp [intOf]; omega
      · go_wp2_with (at_builtin; refine wpList_append_fits _ rfl (.tmp 35) (.tmp 38) 27 rfl w.heap.size 5 i0 1 Ybaf.underlying27 hi hz1 w.heap.size k len _ rfl (hown.alloc _) ⟨wr.heap.size, 0, none⟩ 1 1 [.int .u8 ((tb (z % 63).toNat).toNat : Nat)] rfl rfl (cell_one_new _ _ _) (one_int _ _) (by omega) ?_; intro w1 hown1 hgrow1)
        go_roundw
        case rel => exact ⟨k + 1, by omega, by go_num, rfl, by rw [HS.out, allL_snoc]; simp; omega, by rw [HS.out, built_snoc, List.map_append]; exact hown1, (hnx.alloc hnx.size _).grown hgrow1 (by simp; have := hnx.size; omega) (fun k hk => by cases hk; exact Nat.le_refl _)⟩
        case measure => simp [intOf]; omega
    · obtain rfl : k = len := by omega
      obtain ⟨nm, hnm, hcv⟩ := id_made wr w.heap.size k zs hz hown
      have hFr : F.answers wr.tape := by rw [hnx.tape]; exact hF
      have hsz : nm.size ≤ maxLen := by
        have e : nm.data.toList.length = nm.size := by simp
        rw [hnm, built_length, List.length_take] at e
        unfold maxLen; omega
      have hok : okId nm.data.toList = (decide (1 ≤ k ∧ k ≤ 16) && allL (zs.take k)) := by
        rw [hnm, okId_built, List.length_take, Nat.min_eq_left hz]
      have HB : Hid (Below w.heap.size w (refused F fd nm wr)) := below_refused F fd nm hnx
      clear hown hown0 hgrow0 hnm
      cases hal : allL (zs.take k)
      · have hko : okId nm.data.toList = false := by rw [hok, hal]; simp
        clear hok
        go_wp2_with (first | (go_at_call 5; refine (check_no F _ _ _ (by exact hFr) hsz hko).mono ?_; rintro e w' ⟨rfl, rfl⟩))
        generalize refused F fd nm wr = w1 at *
        go_wp2
        go_ret
        exact ⟨rfl, HB.out⟩
      by_cases hk1 : 1 ≤ k
      · by_cases hk2 : k ≤ 16
        · have hko : okId nm.data.toList = true := by rw [hok, hal]; simp; omega
          have e2 : decide ((k : Int) ≤ 16) = true := by simp; omega
          clear hok HB
          go_wp2_with (first | (go_at_call 5; refine (check_yes F _ _ _ (by exact hFr) hsz hko).mono ?_; rintro e w' ⟨rfl, rfl⟩))
          go_ret
          exact ⟨rfl, hnx⟩
        · have hko : okId nm.data.toList = false := by rw [hok, hal]; simp; omega
          have e2 : decide ((k : Int) ≤ 16) = false := by simp; omega
          clear hok
          go_wp2_with (first | (go_at_call 5; refine (check_no F _ _ _ (by exact hFr) hsz hko).mono ?_; rintro e w' ⟨rfl, rfl⟩))
          generalize refused F fd nm wr = w1 at *
          go_wp2
          go_ret
          exact ⟨rfl, HB.out⟩
      · have hko : okId nm.data.toList = false := by rw [hok, hal]; simp; omega
        have e2 : decide (1 ≤ (k : Int)) = false := by simp; omega
        clear hok
        go_wp2_with (first | (go_at_call 5; refine (check_no F _ _ _ (by exact hFr) hsz hko).mono ?_; rintro e w' ⟨rfl, rfl⟩))
        generalize refused F fd nm wr = w1 at *
        go_wp2
        go_ret
        exact ⟨rfl, HB.out⟩

set_option maxHeartbeats 400000 in
theorem walk_nil (F : Interp) (fd : ByteArray) (a : Option Addr) (cap : Nat) (w : World) (hF : F.answers w.tape) (hf : fd.size ≤ maxLen) (h2 : fd.size ≤ 4096) :
    Calls Ybaf.prog 4 #[.string fd, .slice a 0 cap] w fun e w' => e = .returned (.bool true) ∧ Below w.heap.size w w' := by
  obtain ⟨i0, hi, hz0, hz1, hz2⟩ := info_parts info5
  unfold maxLen at hf
  go_enter Ybaf.func4, Ybaf.ntmps4
  go_wp2_with (at_make; refine wpList_make_own _ rfl _ _ 27 rfl w.heap.size 5 i0 (.int .u8 0) 1 Ybaf.underlying27 hi hz0 hz1 _ _ _ 0 rfl rfl (by omega) ?b2 ?b3 (Nat.le_refl _) ?_)
  case b2 => rw [hz2]; omega
  case b3 => unfold maxLen; omega
  intro w0 hown0 hgrow0
  go_wp2
  go_loopw [5, 6, 26] (fun bv al i wr => i = .int .i64 0 ∧ bv = .slice (some ⟨w.heap.size, 0, none⟩) 0 0 ∧ al = .bool true ∧
      wr.ownsRow w.heap.size 5 1 (.slice (some ⟨w.heap.size, 0, none⟩) 0 0) 0 ((built (([] : List Int).take 0)).map B8) ∧ Below w.heap.size w wr)
    (fun _ _ i _ => 0 - (intOf i).toNat)
  case atStart => exact ⟨rfl, rfl, rfl, hown0, (Below.refl _ _).grown hgrow0 (Nat.le_refl _) (fun k h => by cases h)⟩
  case round =>
    obtain ⟨rfl, rfl, rfl, hown, hnx⟩ := hrel
    obtain ⟨nm, hnm, hcv⟩ := id_made wr w.heap.size 0 [] (Nat.zero_le _) hown
    have hFr : F.answers wr.tape := by rw [hnx.tape]; exact hF
    have hsz : nm.size ≤ maxLen := by
      have e : nm.data.toList.length = nm.size := by simp
      rw [hnm, built_length, List.length_take] at e
      unfold maxLen; omega
    have hko : okId nm.data.toList = false := by rw [hnm, okId_built]; simp
    have HB : Hid (Below w.heap.size w (refused F fd nm wr)) := below_refused F fd nm hnx
    clear hown hown0 hgrow0 hnm
    go_wp2_with (first | (go_at_call 5; refine (check_no F _ _ _ (by exact hFr) hsz hko).mono ?_; rintro e w' ⟨rfl, rfl⟩))
    generalize refused F fd nm wr = w1 at *
    go_wp2
    go_ret
    exact ⟨rfl, HB.out⟩

end lawS3155CBuilt
end Go.Proofs.YbulkbmhwFmt
