/-
  PLAIN: texts of digits of one length stand in the order of their values; how long a text below 2^127 is: no Go in sight.
-/
import Derived.Test.YbulkbmhwDecimal
import GoSem.Claim
namespace Go.Proofs.Ybulkbmhw

theorem val_lt (l : List UInt8) (h : digs l = true) : val l < 10 ^ l.length := by
  induction l with
  | nil => decide
  | cons c l ih =>
    rw [digs_cons, Bool.and_eq_true, dig_iff] at h
    have h1 := ih h.2
    have e := foldl_step l (stepV 0 c)
    have e1 : val (c :: l) = ((c.toNat : Int) - 48) * 10 ^ l.length + val l := by
      unfold val at *; rw [List.foldl_cons, e]; simp [stepV]
    rw [e1, List.length_cons, Int.pow_succ]
    have hp := pow_pos l.length
    have h9 : ((c.toNat : Int) - 48) * 10 ^ l.length ≤ 9 * 10 ^ l.length := Int.mul_le_mul_of_nonneg_right (by omega) (by omega)
    omega

theorem val_cons' (c : UInt8) (l : List UInt8) : val (c :: l) = ((c.toNat : Int) - 48) * 10 ^ l.length + val l := by
  have h := foldl_step l (stepV 0 c)
  unfold val at *
  rw [List.foldl_cons, h]
  simp [stepV]

theorem less_val : ∀ (a b : List UInt8), digs a = true → digs b = true → a.length = b.length → Op.bytesLess a b = decide (val a < val b) := by
  intro a
  induction a with
  | nil =>
    intro b _ _ hl
    have : b = [] := List.eq_nil_of_length_eq_zero (by simpa using hl.symm)
    subst this
    decide
  | cons c a ih =>
    intro b ha hb hl
    cases b with
    | nil => simp at hl
    | cons d b =>
      rw [digs_cons, Bool.and_eq_true, dig_iff] at ha hb
      have hl' : a.length = b.length := by simpa using hl
      have va := val_lt a ha.2
      have vb := val_lt b hb.2
      have na := val_nonneg a ha.2
      have nb := val_nonneg b hb.2
      rw [val_cons', val_cons', ← hl']
      rw [← hl'] at vb
      have hp := pow_pos a.length
      have hr := ih b ha.2 hb.2 hl'
      have e : Op.bytesLess (c :: a) (d :: b) = (decide (c < d) || (c == d && Op.bytesLess a b)) := rfl
      rw [e, hr]
      generalize ((10 : Int) ^ a.length) = p at *
      rcases Nat.lt_trichotomy c.toNat d.toNat with h | h | h
      · have e1 : decide (c < d) = true := decide_eq_true (UInt8.lt_iff_toNat_lt.2 h)
        have e2 : ((c.toNat : Int) - 48 + 1) * p ≤ ((d.toNat : Int) - 48) * p := Int.mul_le_mul_of_nonneg_right (by omega) (by omega)
        rw [Int.add_mul, Int.one_mul] at e2
        have e3 : ((c.toNat : Int) - 48) * p + val a < ((d.toNat : Int) - 48) * p + val b := by omega
        rw [e1, decide_eq_true e3]; rfl
      · have e0 : c = d := UInt8.toNat_inj.1 h
        subst e0
        have e1 : decide (c < c) = false := decide_eq_false (by rw [UInt8.lt_iff_toNat_lt]; omega)
        rw [e1]
        simp
      · have e1 : decide (c < d) = false := decide_eq_false (by rw [UInt8.lt_iff_toNat_lt]; omega)
        have e4 : (c == d) = false := by
          rw [Bool.eq_false_iff]
          intro ht
          have : c = d := by simpa using ht
          subst this
          omega
        have e2 : ((d.toNat : Int) - 48 + 1) * p ≤ ((c.toNat : Int) - 48) * p := Int.mul_le_mul_of_nonneg_right (by omega) (by omega)
        rw [Int.add_mul, Int.one_mul] at e2
        have e3 : ¬ ((c.toNat : Int) - 48) * p + val a < ((d.toNat : Int) - 48) * p + val b := by omega
        rw [e1, e4, decide_eq_false e3]; rfl

/-- 2^127 as a text -/
def limL : List UInt8 := [49, 55, 48, 49, 52, 49, 49, 56, 51, 52, 54, 48, 52, 54, 57, 50, 51, 49, 55, 51, 49, 54, 56, 55, 51, 48, 51, 55, 49, 53, 56, 56, 52, 49, 48, 53, 55, 50, 56]
theorem lim_val : val limL = 170141183460469231731687303715884105728 := by decide
theorem lim_digs : digs limL = true := by decide

/-- the significant digits: some, and the first is no nought unless it stands alone -/
def Sig (l : List UInt8) : Prop := l ≠ [] ∧ digs l = true ∧ (l.length = 1 ∨ l.head? ≠ some 48)

theorem pow_mono {a b : Nat} (h : a ≤ b) : (10 : Int) ^ a ≤ 10 ^ b := by
  have e : b = a + (b - a) := by omega
  rw [e, Int.pow_add]
  have h1 := pow_pos (b - a)
  have h0 := pow_pos a
  have h2 : (10 : Int) ^ a * 1 ≤ 10 ^ a * 10 ^ (b - a) := Int.mul_le_mul_of_nonneg_left h1 (by omega)
  omega

theorem sig_low (l : List UInt8) (h : Sig l) (h2 : 1 < l.length) : 10 ^ (l.length - 1) ≤ val l := by
  obtain ⟨hne, hd, hh⟩ := h
  cases l with
  | nil => exact absurd rfl hne
  | cons c l =>
    rw [digs_cons, Bool.and_eq_true, dig_iff] at hd
    have hc : c ≠ 48 := by
      rcases hh with hh | hh
      · omega
      · intro e; apply hh; simp [e]
    have hc' : c.toNat ≠ 48 := fun e => hc (UInt8.toNat_inj.1 e)
    rw [val_cons', List.length_cons, Nat.add_sub_cancel]
    have nb := val_nonneg l hd.2
    have hp := pow_pos l.length
    have h9 : 1 * 10 ^ l.length ≤ ((c.toNat : Int) - 48) * 10 ^ l.length := Int.mul_le_mul_of_nonneg_right (by omega) (by omega)
    omega

/-- more than 39 digits: out of range -/
theorem sig_long (l : List UInt8) (h : Sig l) (h2 : 39 < l.length) : 170141183460469231731687303715884105728 ≤ val l := by
  have h1 := sig_low l h (by omega)
  have h3 := pow_mono (show 39 ≤ l.length - 1 by omega)
  have e : (10 : Int) ^ 39 = 1000000000000000000000000000000000000000 := by decide
  omega

/-- fewer than 39 digits: in range -/
theorem sig_short (l : List UInt8) (h : Sig l) (h2 : l.length < 39) : val l < 170141183460469231731687303715884105728 := by
  have h1 := val_lt l h.2.1
  have h3 := pow_mono (show l.length ≤ 38 by omega)
  have e : (10 : Int) ^ 38 = 100000000000000000000000000000000000000 := by decide
  omega

/-- 39 digits: as the text compares -/
theorem sig_at (l : List UInt8) (h : Sig l) (h2 : l.length = 39) : Op.bytesLess l limL = decide (val l < 170141183460469231731687303715884105728) := by
  rw [less_val l limL h.2.1 lim_digs (by rw [h2]; rfl), lim_val]

/-- at most 18 digits: a small number -/
theorem sig_small (l : List UInt8) (hd : digs l = true) (h2 : l.length ≤ 18) : 0 ≤ val l ∧ val l < 1000000000000000000 := by
  have h1 := val_lt l hd
  have h3 := pow_mono h2
  have e : (10 : Int) ^ 18 = 1000000000000000000 := by decide
  have := val_nonneg l hd
  omega

/-- a leading nought does not count -/
theorem val_nought (l : List UInt8) : val (48 :: l) = val l := by
  rw [val_cons']
  have : ((48 : UInt8).toNat : Int) - 48 = 0 := by decide
  rw [this, Int.zero_mul, Int.zero_add]
end Go.Proofs.Ybulkbmhw
