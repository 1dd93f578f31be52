/-
  PLAIN: decimal texts and their values: no Go in sight.
-/
namespace Go.Proofs.Ybulkbmhw

/-- a decimal digit -/
def dig (c : UInt8) : Bool := decide (48 ≤ (c.toNat : Int) ∧ (c.toNat : Int) ≤ 57)
/-- decimal digits alone -/
def digs (l : List UInt8) : Bool := l.all dig
/-- one digit more -/
def stepV (a : Int) (c : UInt8) : Int := a * 10 + ((c.toNat : Int) - 48)
/-- the value of a text of digits -/
def val (l : List UInt8) : Int := l.foldl stepV 0

/-- what a text of digits without a sign parses to -/
def bodyV (t : List UInt8) : Option Int := if t ≠ [] ∧ digs t = true ∧ val t < 170141183460469231731687303715884105728 then some (val t) else none

/-- what a text parses to: an optional sign, then digits -/
def parseV (s : List UInt8) : Option Int := match s with
  | [] => none
  | c :: t => if c = 45 then (bodyV t).map (fun v => -v) else bodyV (c :: t)

theorem val_nil : val [] = 0 := rfl
theorem val_snoc (l : List UInt8) (c : UInt8) : val (l ++ [c]) = stepV (val l) c := by simp [val, List.foldl_append]
theorem digs_nil : digs [] = true := rfl
theorem digs_snoc (l : List UInt8) (c : UInt8) : digs (l ++ [c]) = (digs l && dig c) := by simp [digs]
theorem digs_append (a b : List UInt8) : digs (a ++ b) = (digs a && digs b) := by simp [digs]
theorem digs_cons (c : UInt8) (l : List UInt8) : digs (c :: l) = (dig c && digs l) := by simp [digs]

theorem dig_iff (c : UInt8) : dig c = true ↔ 48 ≤ (c.toNat : Int) ∧ (c.toNat : Int) ≤ 57 := by simp [dig]

theorem foldl_step (l : List UInt8) (a : Int) : l.foldl stepV a = a * 10 ^ l.length + val l := by
  induction l generalizing a with
  | nil => simp [val]
  | cons c l ih =>
    have h0 := ih (stepV 0 c)
    have h1 := ih (stepV a c)
    simp only [List.foldl_cons, List.length_cons, val] at *
    rw [h1, h0]
    simp only [stepV, Int.pow_succ]
    generalize ((10 : Int) ^ l.length) = p
    generalize l.foldl stepV 0 = q
    generalize (c.toNat : Int) = r
    simp only [Int.add_mul, Int.zero_mul, Int.sub_mul, Int.zero_add]
    have : a * 10 * p = a * (p * 10) := by rw [Int.mul_assoc, Int.mul_comm 10 p]
    omega

theorem val_append (a b : List UInt8) : val (a ++ b) = val a * 10 ^ b.length + val b := by
  unfold val
  rw [List.foldl_append, foldl_step]
  rfl

theorem val_nonneg (l : List UInt8) (h : digs l = true) : 0 ≤ val l := by
  have key : ∀ (l : List UInt8) (a : Int), 0 ≤ a → digs l = true → 0 ≤ l.foldl stepV a := by
    intro l
    induction l with
    | nil => intro a ha _; exact ha
    | cons c l ih =>
      intro a ha hd
      rw [digs_cons, Bool.and_eq_true, dig_iff] at hd
      exact ih _ (by unfold stepV; omega) hd.2
  exact key l 0 (Int.le_refl 0) h

theorem pow_pos (n : Nat) : (1 : Int) ≤ 10 ^ n := by
  induction n with
  | zero => decide
  | succ n ih => rw [Int.pow_succ]; omega

/-- the value of a longer text is no smaller -/
theorem val_mono (l : List UInt8) (k : Nat) (h : digs l = true) : val (l.take k) ≤ val l := by
  have hd : digs (l.take k) = true ∧ digs (l.drop k) = true := by
    rw [← Bool.and_eq_true, ← digs_append, List.take_append_drop]; exact h
  have e : val l = val (l.take k) * 10 ^ (l.drop k).length + val (l.drop k) := by
    rw [← val_append, List.take_append_drop]
  have h1 := val_nonneg _ hd.1
  have h2 := val_nonneg _ hd.2
  have h3 : val (l.take k) * 1 ≤ val (l.take k) * 10 ^ (l.drop k).length := Int.mul_le_mul_of_nonneg_left (pow_pos _) h1
  rw [e]; omega

theorem take_snoc (s : ByteArray) (k : Nat) (h : k < s.size) : s.data.toList.take (k + 1) = s.data.toList.take k ++ [s[k]] := by
  rw [List.take_succ_eq_append_getElem (by simpa using h)]; rfl

/-- a byte that is no digit: nothing -/
theorem bodyV_bad (s : ByteArray) (k : Nat) (h : k < s.size) (hd : dig s[k] = false) : bodyV s.data.toList = none := by
  have : digs s.data.toList = false := by
    rw [Bool.eq_false_iff]
    intro ht
    unfold digs at ht
    rw [List.all_eq_true] at ht
    have := ht s[k] (by
      have : s.data.toList[k]'(by simpa using h) = s[k] := rfl
      rw [← this]; exact List.getElem_mem _)
    rw [hd] at this; cases this
  simp [bodyV, this]

/-- the value of a beginning has outgrown the range: nothing -/
theorem bodyV_out (l : List UInt8) (k : Nat) (hv : 170141183460469231731687303715884105728 ≤ val (l.take k)) : bodyV l = none := by
  unfold bodyV
  rw [if_neg]
  rintro ⟨_, hd, hl⟩
  have := val_mono l k hd
  omega

theorem bodyV_some (l : List UInt8) (hn : l ≠ []) (hd : digs l = true) (hv : val l < 170141183460469231731687303715884105728) : bodyV l = some (val l) := by
  unfold bodyV; rw [if_pos ⟨hn, hd, hv⟩]

theorem bodyV_nil : bodyV [] = none := by simp [bodyV]

end Go.Proofs.Ybulkbmhw
