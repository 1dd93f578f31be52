/-
  THE WALK OF zzs3155btext.
-/
import Derived.Test.YbulkbmhwParse
import Derived.OwnWalk
import Derived.Laws.IdiomStrings
namespace Go.Proofs.Ybulkbmhw
open Go.RowKit

/-- what holds of the array of 20 bytes: its last cells, from place p on, are the bytes ds -/
def BufAt (w : World) (p : Nat) (ds : List UInt8) (wr : World) : Prop :=
  (∀ q, q < 20 → ∃ v, wr.cell? ⟨w.heap.size, q, none⟩ = some v) ∧ (∀ q, q < 20 → wr.frozen? ⟨w.heap.size, q, none⟩ = false) ∧
  (∀ q (h : q < ds.length), wr.cell? ⟨w.heap.size, p + q, none⟩ = some (.int .u8 (ds[q].toNat : Int))) ∧ w.heap.size + 1 ≤ wr.heap.size ∧ Below w.heap.size w wr

/-- what holds of the number: m is what is left of it behind the digits ds -/
def Left10 (n m : Int) (ds : List UInt8) : Prop := 0 ≤ m ∧ n = m * 10 ^ ds.length + val ds ∧ digs ds = true

/-- the last digit of m, as a byte -/
def ch (m : Int) : UInt8 := UInt8.ofNat (48 + m % 10).toNat
theorem ch_toNat (m : Int) : ((ch m).toNat : Int) = 48 + m % 10 := by
  unfold ch
  rw [UInt8.toNat_ofNat']
  omega
theorem ch_dig (m : Int) : dig (ch m) = true := by rw [dig_iff, ch_toNat]; omega

theorem val_cons (c : UInt8) (l : List UInt8) : val (c :: l) = ((c.toNat : Int) - 48) * 10 ^ l.length + val l := by
  have h := foldl_step l (stepV 0 c)
  unfold val at *
  rw [List.foldl_cons, h]
  simp [stepV]

theorem Left10.step {n m : Int} {ds : List UInt8} (h : Left10 n m ds) : Left10 n (m / 10) (ch m :: ds) := by
  obtain ⟨h0, h1, h2⟩ := h
  refine ⟨by omega, ?_, by rw [digs_cons, ch_dig, h2]; rfl⟩
  rw [val_cons, ch_toNat, List.length_cons, Int.pow_succ, h1]
  have e : m = 10 * (m / 10) + m % 10 := by omega
  have e2 : m * 10 ^ ds.length = (10 * (m / 10) + m % 10) * 10 ^ ds.length := by rw [← e]
  rw [e2]
  generalize ((10 : Int) ^ ds.length) = p
  generalize m / 10 = a
  generalize m % 10 = b
  have e3 : 48 + b - 48 = b := by omega
  rw [e3, Int.add_mul]
  have e4 : 10 * a * p = a * (p * 10) := by rw [Int.mul_comm 10 a, Int.mul_assoc, Int.mul_comm 10 p]
  omega

/-- the array has room: twenty digits hold every number below 2^64 -/
theorem Left10.room {n m : Int} {ds : List UInt8} (h : Left10 n m ds) (hn : n ≤ 18446744073709551615) (hm : ds = [] ∨ 0 < m) : ds.length < 20 := by
  obtain ⟨h0, h1, h2⟩ := h
  rcases hm with rfl | hm
  · decide
  · apply Classical.byContradiction
    intro hc
    have hv := val_nonneg ds h2
    have hp : (10 : Int) ^ 20 ≤ 10 ^ ds.length := by
      have e : ds.length = 20 + (ds.length - 20) := by omega
      rw [e, Int.pow_add]
      have h1 := pow_pos (ds.length - 20)
      have h2 : (10 : Int) ^ 20 * 1 ≤ 10 ^ 20 * 10 ^ (ds.length - 20) := Int.mul_le_mul_of_nonneg_left h1 (by decide)
      omega
    have hq : 1 * (10 : Int) ^ ds.length ≤ m * 10 ^ ds.length := Int.mul_le_mul_of_nonneg_right (by omega) (by have := pow_pos ds.length; omega)
    have hr : (10 : Int) ^ 20 = 100000000000000000000 := by decide
    omega

theorem BufAt.later {w : World} {p : Nat} {ds : List UInt8} {wr w1 : World} (h : BufAt w p ds wr) (hb : Below (w.heap.size + 1) wr w1) : BufAt w p ds w1 := by
  obtain ⟨h1, h2, h3, h4, h5⟩ := h
  have hs := hb.size
  refine ⟨fun q hq => ?_, fun q hq => ?_, fun q hq => ?_, by omega, h5.trans (hb.mono (by omega))⟩
  · rw [hb.cell (by show w.heap.size < _; omega)]; exact h1 q hq
  · rw [hb.frozen (by show w.heap.size < _; omega)]; exact h2 q hq
  · rw [hb.cell (by show w.heap.size < _; omega)]; exact h3 q hq

theorem BufAt.store {w : World} {q : Nat} {ds : List UInt8} {wr : World} (c : UInt8) (h : BufAt w (q + 1) ds wr) (hq : q < 20) :
    BufAt w q (c :: ds) (wr.setCell ⟨w.heap.size, q, none⟩ (.int .u8 (c.toNat : Int))) := by
  obtain ⟨h1, h2, h3, h4, h5⟩ := h
  obtain ⟨v, hv⟩ := h1 q hq
  refine ⟨fun j hj => ?_, fun j hj => ?_, fun j hj => ?_, by simpa [World.setCell] using h4, h5.setCell (Nat.le_refl _) _⟩
  · by_cases e : j = q
    · subst e; exact ⟨_, World.cell?_setCell_same _ _ _ hv⟩
    · rw [World.cell?_setCell_other _ _ _ _ (by intro h; cases h; exact e rfl)]; exact h1 j hj
  · have := h2 j hj; simpa [go_sem] using this
  · cases j with
    | zero => exact World.cell?_setCell_same _ _ _ hv
    | succ j =>
      have hj' : j < ds.length := by simpa using hj
      rw [World.cell?_setCell_other _ _ _ _ (by intro h; have := congrArg Addr.off h; simp at this)]
      have := h3 j hj'
      rw [show q + (j + 1) = q + 1 + j by omega]
      simpa using this

theorem buf_start (w : World) : BufAt w 20 [] (w.alloc (.cells #[.int .u8 0, .int .u8 0, .int .u8 0, .int .u8 0, .int .u8 0, .int .u8 0, .int .u8 0, .int .u8 0, .int .u8 0, .int .u8 0, .int .u8 0, .int .u8 0, .int .u8 0, .int .u8 0, .int .u8 0, .int .u8 0, .int .u8 0, .int .u8 0, .int .u8 0, .int .u8 0] 60)) := by
  refine ⟨fun q hq => ?_, fun q hq => ?_, fun q hq => by simp at hq, by simp, (Below.refl _ _).alloc (Nat.le_refl _) _⟩
  · rw [World.cell?_alloc_mark]
    exact ⟨_, Array.getElem?_eq_getElem (by simpa using hq)⟩
  · rw [World.frozen?_alloc_mark]; simp

def B8 (c : UInt8) : Value := .int .u8 (c.toNat : Nat)
theorem one_int (k : IntKind) (n : Int) : ∀ u ∈ [Value.int k n], u.oneCell' = true := by
  intro u hu; simp at hu; subst hu; rfl
theorem info5 : (Yba.prog.info? 5).map (fun i => (i.zero, i.size, i.bytes)) = some (some (.int .u8 0), 1, 1) := by kernel_rfl

theorem slice_buf (b q : Nat) (hq : q < 20) (w : World) :
    (Instr.sliceAt 60 (.pointer (some ⟨b, 0, none⟩)) (some (.int .i64 (q : Int))) none none).run Yba.prog w = .ok (.slice (some ⟨b, q, none⟩) (20 - q) (20 - q)) w := by
  have ht : Yba.prog.underlying 60 = some (.array (Yba.prog.arrayLen 60) (Yba.prog.elem 60)) := by kernel_rfl
  have hl : Yba.prog.arrayLen 60 = 20 := by kernel_rfl
  have hs : (sizeOf (Yba.prog.elem 60)).run Yba.prog w = .ok 1 w := by kernel_rfl
  rw [run_sliceAt_array_l w 60 ⟨b, 0, none⟩ ht .i64 (q : Int) (by omega) (by rw [hl]; omega), hs]
  simp only [Result.andThen, slicedAt, hl, Int.toNat_natCast, Nat.mul_one]
  rw [if_neg (by omega), Go.WideShapes.add_plain, Nat.zero_add]

theorem buf_news {w : World} {q : Nat} {dd : List UInt8} {wr : World} (h : BufAt w q dd wr) : ∀ j u, (dd.map B8)[j]? = some u → wr.cell? ((⟨w.heap.size, q, none⟩ : Addr).add j) = some u := by
  intro j u hj
  rw [List.getElem?_map] at hj
  obtain ⟨c, hc, rfl⟩ := Option.map_eq_some_iff.1 hj
  obtain ⟨hlt, rfl⟩ := List.getElem?_eq_some_iff.1 hc
  rw [Go.WideShapes.add_plain]
  exact h.2.2.1 j hlt

theorem bytes_oneCell (dd : List UInt8) : ∀ u ∈ dd.map B8, u.oneCell' = true := by
  intro u hu
  obtain ⟨c, _, rfl⟩ := List.mem_map.1 hu
  rfl

theorem owns_cells {w : World} {base g n cap : Nat} {l : List UInt8} (h : w.ownsRow base 5 1 (.slice (some ⟨g, 0, none⟩) n cap) n (l.map B8)) :
    ∀ j (hj : j < l.length), w.cell? ((⟨g, 0, none⟩ : Addr).add j) = some (.int .u8 (l[j].toNat : Int)) := by
  obtain ⟨hlen, h⟩ := h
  rcases h with ⟨h, _⟩ | ⟨g', cap', cur, hv, _, hcur, _, _, _, htake⟩
  · cases h
  · cases hv
    intro j hj
    have e1 : (cur.toList.take (n * 1))[j]? = some (B8 l[j]) := by rw [htake]; simp [hj]
    have hjn : j < n * 1 := by rw [← hlen]; simpa using hj
    rw [List.getElem?_take_of_lt hjn] at e1
    rw [Go.WideShapes.add_plain, Nat.zero_add]
    simp [World.cell?, hcur]
    simpa [B8] using e1

/-- 'string(out)' -/
theorem text_made (w : World) (base g n cap : Nat) (l : List UInt8) (hn : l.length = n) (h : w.ownsRow base 5 1 (.slice (some ⟨g, 0, none⟩) n cap) n (l.map B8)) :
    ∃ nm : ByteArray, nm.data.toList = l ∧ (convert 61 9 (.slice (some ⟨g, 0, none⟩) n cap)).run Yba.prog w = .ok (.string nm) w := by
  refine ⟨⟨l.toArray⟩, rfl, ?_⟩
  have hr := run_convert_bytes_back (P := Yba.prog) w 61 9 5 ⟨g, 0, none⟩ cap l Yba.underlying61 Yba.underlying5 Yba.underlying9 (owns_cells h)
  rw [hn] at hr
  exact hr

/-- what zzs3155btext leaves: a sign or none, z noughts, the digits of a number -/
def Texts (pre : List UInt8) (v : Int) (z : Nat) (w : World) (e : Ending) (w' : World) : Prop :=
  ∃ (dd : List UInt8) (nm : ByteArray), e = .returned (.string nm) ∧ nm.data.toList = pre ++ List.replicate z 48 ++ dd ∧ val dd = v ∧ digs dd = true ∧ dd ≠ [] ∧ dd.length ≤ 20 ∧ Below w.heap.size w w'

set_option maxRecDepth 100000 in
set_option maxHeartbeats 400000 in
theorem text_pos (n : Int) (z : Nat) (w : World) (h0 : 0 ≤ n) (h1 : n ≤ 9223372036854775807) (z1 : z ≤ 7) :
    Calls Yba.prog 10 #[.int .i64 n, .int .i64 (z : Int)] w (Texts [] n z w) := by
  obtain ⟨i0, hi, hz0, hz1, hz2⟩ := info_parts info5
  go_enter Yba.func10, Yba.ntmps10
  go_wp2
  go_loopw [5, 7] (fun mv iv wr => ∃ (p : Nat) (m : Int) (ds : List UInt8), p + ds.length = 20 ∧ iv = .int .i64 (p : Int) ∧ mv = .int .u64 m ∧ m ≤ 18446744073709551615 ∧ (ds = [] ∨ 0 < m) ∧ Left10 n m ds ∧ BufAt w p ds wr)
    (fun _ iv _ => (intOf iv).toNat)
  case atStart => exact ⟨20, n, [], rfl, rfl, rfl, by omega, .inl rfl, ⟨h0, by simp [val_nil], rfl⟩, buf_start w⟩
  case round =>
    obtain ⟨p, m, ds, hp, rfl, rfl, hm, hne, hl, hbuf⟩ := hrel
    have hroom := hl.room (by omega) hne
    obtain ⟨q, rfl⟩ : ∃ q, p = q + 1 := ⟨p - 1, by omega⟩
    have hm0 : 0 ≤ m := hl.1
    obtain ⟨v, hv⟩ := hbuf.1 q (by omega)
    have hf := hbuf.2.1 q (by omega)
    have hq : q < 20 := by omega
    have HB : Hid (BufAt w (q + 1) ds wr) := hbuf
    have HL : Hid (Left10 n m ds) := hl
    have HP : Hid (q + 1 + ds.length = 20) := hp
    clear hbuf hl hp
    by_cases hz : m ≤ 9
    · have hb' : BufAt w q (ch m :: ds) (wr.setCell ⟨w.heap.size, q, none⟩ (.int .u8 (48 + m % 10))) := by
        have := BufAt.store (ch m) HB.out hq
        rw [ch_toNat] at this
        exact this
      have HB1 : Hid (BufAt w q (ch m :: ds) (wr.setCell ⟨w.heap.size, q, none⟩ (.int .u8 (48 + m % 10)))) := hb'
      have HL1 : Hid (val (ch m :: ds) = n ∧ digs (ch m :: ds) = true) := by
        obtain ⟨a1, a2, a3⟩ := HL.out.step
        have e : m / 10 = 0 := by omega
        rw [e, Int.zero_mul, Int.zero_add] at a2
        exact ⟨a2.symm, a3⟩
      have HP1 : Hid (q + (ch m :: ds).length = 20) := by
        have := HP.out
        show q + (ch m :: ds).length = 20
        rw [List.length_cons]; omega
      have HD1 : Hid (ch m :: ds ≠ []) := List.cons_ne_nil _ _
      clear hb' HB HL HP hne hroom
      generalize ch m :: ds = dd at *
      have hbs : w.heap.size + 1 ≤ wr.heap.size := by
        have := HB1.out.2.2.2.1
        simpa [World.setCell] using this
      go_wp2_with (at_make; refine wpList_make_own _ rfl _ _ 61 rfl wr.heap.size 5 i0 (.int .u8 0) 1 Yba.underlying61 hi hz0 hz1 _ _ _ (21 + z) rfl rfl ?b1 ?b2 ?b3 ?b4 ?_)
      case b1 => omega
      case b2 => rw [hz2]; omega
      case b3 => unfold maxLen; omega
      case b4 => simp [World.setCell]
      intro w1 hown1 hgrow1
      have HB2 : Hid (BufAt w q dd w1) := by
        refine HB1.out.later ((Below.refl _ _).grown hgrow1 ?_ (fun k h => by cases h))
        simpa [World.setCell] using hbs
      have hsz1 : wr.heap.size ≤ w1.heap.size := by have := hgrow1.size; simpa [World.setCell] using this
      generalize wr.heap.size = G at *
      clear HB1 hgrow1 hv hf hz
      go_wp2
      go_loopw [8, 9] (fun ov kv w2 => ∃ k : Nat, k ≤ z ∧ kv = .int .i64 (k : Int) ∧ ov = .slice (some ⟨G, 0, none⟩) k (21 + z) ∧
          w2.ownsRow G 5 1 (.slice (some ⟨G, 0, none⟩) k (21 + z)) k ((List.replicate k 48).map B8) ∧ Below (w.heap.size + 1) w1 w2 ∧ G ≤ w2.heap.size)
        (fun _ kv _ => z - (intOf kv).toNat)
      case atStart => exact ⟨0, Nat.zero_le _, rfl, rfl, hown1, Below.refl _ _, hsz1⟩
      case round =>
        obtain ⟨k, hk, rfl, rfl, hown, hbel, hsz2⟩ := hrel
        by_cases hlt : k < z
        · go_wp2_with (at_builtin; refine wpList_append_fits _ rfl (.tmp 42) (.tmp 43) 61 rfl G 5 i0 1 Yba.underlying61 hi hz1 G k (21 + z) _ rfl (hown.alloc _) ⟨wr.heap.size, 0, none⟩ 1 1 [.int .u8 48] rfl rfl (cell_one_new _ _ _) (one_int _ _) (by omega) ?_; intro w3 hown3 hgrow3)
          go_roundw
          case rel => exact ⟨k + 1, by omega, by go_num, rfl, by rw [List.replicate_succ', List.map_append]; exact hown3, (hbel.alloc (by omega) _).grown hgrow3 (by simp; omega) (fun k hk => by cases hk; exact hbs), by have := hgrow3.size; simp at this; omega⟩
          case measure => simp [intOf]; omega
        · obtain rfl : k = z := by omega
          have hB3 := HB2.out.later hbel
          have hlen := HP1.out
          have hsl := fun w2 : World => slice_buf w.heap.size q hq w2
          have HN := buf_news hB3
          have hdd : dd ≠ [] := HD1.out
          obtain ⟨hvd, hdg⟩ := HL1.out
          clear HB2 hown1 HD1 HL1 HP1
          have HV : Hid (val dd = n) := hvd
          have HLn : Hid (q + dd.length = 20) := hlen
          have HNw : Hid (∀ j u, (dd.map B8)[j]? = some u → wr.cell? ((⟨w.heap.size, q, none⟩ : Addr).add j) = some u) := HN
          clear hvd hlen HN
          have HBl : Hid (Below w.heap.size w wr) := hB3.2.2.2.2
          clear hB3
          go_wp2_with (at_builtin; refine wpList_append_fits _ rfl (.tmp 45) (.tmp 47) 61 rfl G 5 i0 1 Yba.underlying61 hi hz1 G k (21 + k) _ rfl hown ⟨w.heap.size, q, none⟩ (20 - q) (20 - q) (dd.map B8) rfl (by have := HLn.out; simp; omega) HNw.out (bytes_oneCell _) (by omega) ?_; intro w3 hown3 hgrow3; obtain ⟨nm, hnm, hcv⟩ := text_made w3 G G (k + (20 - q)) (21 + k) (List.replicate k 48 ++ dd) (by have := HLn.out; simp; omega) (by rw [List.map_append]; exact hown3); have HM : Hid (nm.data.toList = List.replicate k 48 ++ dd) := hnm; clear hnm)
          go_ret
          exact ⟨dd, nm, rfl, by rw [List.nil_append]; exact HM.out, HV.out, hdg, hdd, by have := HLn.out; omega, HBl.out.grown hgrow3 (by omega) (fun k hk => by cases hk; omega)⟩
    · go_wp2
      go_roundw
      case rel =>
        have hb' : BufAt w q (ch m :: ds) (wr.setCell ⟨w.heap.size, q, none⟩ (.int .u8 (48 + m % 10))) := by
          have := BufAt.store (ch m) HB.out hq
          rw [ch_toNat] at this
          exact this
        exact ⟨q, m / 10, ch m :: ds, by rw [List.length_cons]; have := HP.out; omega, rfl, rfl, by omega, .inr (by omega), HL.out.step, hb'⟩
      case measure => simp [intOf]
set_option maxRecDepth 100000 in
set_option maxHeartbeats 400000 in
theorem text_neg (n : Int) (z : Nat) (w : World) (h0 : n < 0) (h1 : -9223372036854775808 ≤ n) (z1 : z ≤ 7) :
    Calls Yba.prog 10 #[.int .i64 n, .int .i64 (z : Int)] w (Texts [45] (-n) z w) := by
  obtain ⟨i0, hi, hz0, hz1, hz2⟩ := info_parts info5
  have hwr : IntKind.u64.wrap (-IntKind.u64.wrap n) = -n := by rw [IntKind.wrap_u64, IntKind.wrap_u64]; omega
  go_enter Yba.func10, Yba.ntmps10
  go_wp2
  go_loopw [5, 7] (fun mv iv wr => ∃ (p : Nat) (m : Int) (ds : List UInt8), p + ds.length = 20 ∧ iv = .int .i64 (p : Int) ∧ mv = .int .u64 m ∧ m ≤ 18446744073709551615 ∧ (ds = [] ∨ 0 < m) ∧ Left10 (-n) m ds ∧ BufAt w p ds wr)
    (fun _ iv _ => (intOf iv).toNat)
  case atStart => exact ⟨20, -n, [], rfl, rfl, rfl, by omega, .inl rfl, ⟨by omega, by simp [val_nil], rfl⟩, buf_start w⟩
  case round =>
    obtain ⟨p, m, ds, hp, rfl, rfl, hm, hne, hl, hbuf⟩ := hrel
    have hroom := hl.room (by omega) hne
    obtain ⟨q, rfl⟩ : ∃ q, p = q + 1 := ⟨p - 1, by omega⟩
    have hm0 : 0 ≤ m := hl.1
    obtain ⟨v, hv⟩ := hbuf.1 q (by omega)
    have hf := hbuf.2.1 q (by omega)
    have hq : q < 20 := by omega
    have HB : Hid (BufAt w (q + 1) ds wr) := hbuf
    have HL : Hid (Left10 (-n) m ds) := hl
    have HP : Hid (q + 1 + ds.length = 20) := hp
    clear hbuf hl hp
    by_cases hz : m ≤ 9
    · have hb' : BufAt w q (ch m :: ds) (wr.setCell ⟨w.heap.size, q, none⟩ (.int .u8 (48 + m % 10))) := by
        have := BufAt.store (ch m) HB.out hq
        rw [ch_toNat] at this
        exact this
      have HB1 : Hid (BufAt w q (ch m :: ds) (wr.setCell ⟨w.heap.size, q, none⟩ (.int .u8 (48 + m % 10)))) := hb'
      have HL1 : Hid (val (ch m :: ds) = -n ∧ digs (ch m :: ds) = true) := by
        obtain ⟨a1, a2, a3⟩ := HL.out.step
        have e : m / 10 = 0 := by omega
        rw [e, Int.zero_mul, Int.zero_add] at a2
        exact ⟨a2.symm, a3⟩
      have HP1 : Hid (q + (ch m :: ds).length = 20) := by
        have := HP.out
        show q + (ch m :: ds).length = 20
        rw [List.length_cons]; omega
      have HD1 : Hid (ch m :: ds ≠ []) := List.cons_ne_nil _ _
      clear hb' HB HL HP hne hroom
      generalize ch m :: ds = dd at *
      have hbs : w.heap.size + 1 ≤ wr.heap.size := by
        have := HB1.out.2.2.2.1
        simpa [World.setCell] using this
      go_wp2_with (at_make; refine wpList_make_own _ rfl _ _ 61 rfl wr.heap.size 5 i0 (.int .u8 0) 1 Yba.underlying61 hi hz0 hz1 _ _ _ (21 + z) rfl rfl ?b1 ?b2 ?b3 ?b4 ?_)
      case b1 => omega
      case b2 => rw [hz2]; omega
      case b3 => unfold maxLen; omega
      case b4 => simp [World.setCell]
      intro w1 hown1 hgrow1
      have HB2 : Hid (BufAt w q dd w1) := by
        refine HB1.out.later ((Below.refl _ _).grown hgrow1 ?_ (fun k h => by cases h))
        simpa [World.setCell] using hbs
      have hsz1 : wr.heap.size ≤ w1.heap.size := by have := hgrow1.size; simpa [World.setCell] using this
      generalize wr.heap.size = G at *
      clear HB1 hgrow1 hv hf hz
      go_wp2_with (at_builtin; refine wpList_append_fits _ rfl (.tmp 34) (.tmp 35) 61 rfl G 5 i0 1 Yba.underlying61 hi hz1 G 0 (21 + z) _ rfl (hown1.alloc _) ⟨w1.heap.size, 0, none⟩ 1 1 [.int .u8 45] rfl rfl (cell_one_new _ _ _) (one_int _ _) (by omega) ?_; intro w4 hown4 hgrow4)
      have hbel4 : Below (w.heap.size + 1) w1 w4 := ((Below.refl _ _).alloc (by omega) _).grown hgrow4 (by simp; omega) (fun k hk => by cases hk; exact hbs)
      have hsz4 : G ≤ w4.heap.size := by have := hgrow4.size; simp at this; omega
      clear hgrow4
      go_loopw [8, 9] (fun ov kv w2 => ∃ k : Nat, k ≤ z ∧ kv = .int .i64 (k : Int) ∧ ov = .slice (some ⟨G, 0, none⟩) (1 + k) (21 + z) ∧
          w2.ownsRow G 5 1 (.slice (some ⟨G, 0, none⟩) (1 + k) (21 + z)) (1 + k) ((45 :: List.replicate k 48).map B8) ∧ Below (w.heap.size + 1) w1 w2 ∧ G ≤ w2.heap.size)
        (fun _ kv _ => z - (intOf kv).toNat)
      case atStart => exact ⟨0, Nat.zero_le _, rfl, rfl, hown4, hbel4, hsz4⟩
      case round =>
        obtain ⟨k, hk, rfl, rfl, hown, hbel, hsz2⟩ := hrel
        by_cases hlt : k < z
        · go_wp2_with (at_builtin; refine wpList_append_fits _ rfl (.tmp 42) (.tmp 43) 61 rfl G 5 i0 1 Yba.underlying61 hi hz1 G (1 + k) (21 + z) _ rfl (hown.alloc _) ⟨wr.heap.size, 0, none⟩ 1 1 [.int .u8 48] rfl rfl (cell_one_new _ _ _) (one_int _ _) (by omega) ?_; intro w3 hown3 hgrow3)
          go_roundw
          case rel => exact ⟨k + 1, by omega, by go_num, rfl, by rw [List.replicate_succ', ← List.cons_append, List.map_append]; exact hown3, (hbel.alloc (by omega) _).grown hgrow3 (by simp; omega) (fun k hk => by cases hk; exact hbs), by have := hgrow3.size; simp at this; omega⟩
          case measure => simp [intOf]; omega
        · obtain rfl : k = z := by omega
          have hB3 := HB2.out.later hbel
          have hlen := HP1.out
          have hsl := fun w2 : World => slice_buf w.heap.size q hq w2
          have HN := buf_news hB3
          have hdd : dd ≠ [] := HD1.out
          obtain ⟨hvd, hdg⟩ := HL1.out
          clear HB2 hown1 HD1 HL1 HP1
          have HV : Hid (val dd = -n) := hvd
          have HLn : Hid (q + dd.length = 20) := hlen
          have HNw : Hid (∀ j u, (dd.map B8)[j]? = some u → wr.cell? ((⟨w.heap.size, q, none⟩ : Addr).add j) = some u) := HN
          clear hvd hlen HN
          have HBl : Hid (Below w.heap.size w wr) := hB3.2.2.2.2
          clear hB3
          go_wp2_with (at_builtin; refine wpList_append_fits _ rfl (.tmp 45) (.tmp 47) 61 rfl G 5 i0 1 Yba.underlying61 hi hz1 G (1 + k) (21 + k) _ rfl hown ⟨w.heap.size, q, none⟩ (20 - q) (20 - q) (dd.map B8) rfl (by have := HLn.out; simp; omega) HNw.out (bytes_oneCell _) (by omega) ?_; intro w3 hown3 hgrow3; obtain ⟨nm, hnm, hcv⟩ := text_made w3 G G (1 + k + (20 - q)) (21 + k) (45 :: List.replicate k 48 ++ dd) (by have := HLn.out; simp; omega) (by rw [List.map_append]; exact hown3); have HM : Hid (nm.data.toList = 45 :: List.replicate k 48 ++ dd) := hnm; clear hnm)
          go_ret
          exact ⟨dd, nm, rfl, HM.out, HV.out, hdg, hdd, by have := HLn.out; omega, HBl.out.grown hgrow3 (by omega) (fun k hk => by cases hk; omega)⟩
    · go_wp2
      go_roundw
      case rel =>
        have hb' : BufAt w q (ch m :: ds) (wr.setCell ⟨w.heap.size, q, none⟩ (.int .u8 (48 + m % 10))) := by
          have := BufAt.store (ch m) HB.out hq
          rw [ch_toNat] at this
          exact this
        exact ⟨q, m / 10, ch m :: ds, by rw [List.length_cons]; have := HP.out; omega, rfl, rfl, by omega, .inr (by omega), HL.out.step, hb'⟩
      case measure => simp [intOf]
end Go.Proofs.Ybulkbmhw
