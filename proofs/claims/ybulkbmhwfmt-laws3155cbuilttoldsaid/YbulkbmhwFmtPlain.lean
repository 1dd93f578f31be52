/-
  PLAIN: the rule for asset ids over a list of bytes: no Go in sight.
-/
namespace Go.Proofs.YbulkbmhwFmt

/-- an ASCII letter -/
def letB (c : Int) : Bool := decide (97 ≤ c ∧ c ≤ 122) || decide (65 ≤ c ∧ c ≤ 90)

/-- every byte of the list is an ASCII letter -/
def lets (l : List UInt8) : Bool := l.all fun c => letB c.toNat

/-- 1 to 16 bytes, each an ASCII letter -/
def okId (l : List UInt8) : Bool := decide (1 ≤ l.length ∧ l.length ≤ 16) && lets l

theorem take_snoc (s : ByteArray) (k : Nat) (h : k < s.size) : s.data.toList.take (k + 1) = s.data.toList.take k ++ [s[k]] := by
  rw [List.take_succ_eq_append_getElem (by simpa using h)]; rfl

theorem lets_snoc (l : List UInt8) (c : UInt8) : lets (l ++ [c]) = (lets l && letB c.toNat) := by
  simp [lets]

theorem lets_nil : lets [] = true := rfl

theorem lets_take_false (l : List UInt8) (k : Nat) (h : lets (l.take k) = false) : lets l = false := by
  unfold lets at *
  rw [Bool.eq_false_iff] at *
  intro ht
  apply h
  rw [List.all_eq_true] at *
  intro x hx
  exact ht x (List.mem_of_mem_take hx)

/-- how the loop of checkAssetID stands behind k rounds -/
def sofar (l : List UInt8) (k : Nat) : Bool := decide (1 ≤ l.length ∧ l.length ≤ 16) && lets (l.take k)

theorem sofar_zero (l : List UInt8) : sofar l 0 = decide (1 ≤ l.length ∧ l.length ≤ 16) := by simp [sofar, lets]

theorem sofar_whole (l : List UInt8) (k : Nat) (h : l.length ≤ k) : sofar l k = okId l := by
  unfold sofar okId; rw [List.take_of_length_le h]

theorem sofar_false (l : List UInt8) (k : Nat) (h : sofar l k = false) : okId l = false := by
  unfold sofar at h; unfold okId
  rcases Bool.and_eq_false_iff.1 h with h | h
  · rw [h]; rfl
  · rw [lets_take_false _ _ h]; simp

theorem sofar_succ (s : ByteArray) (k : Nat) (h : k < s.size) (ht : sofar s.data.toList k = true) : sofar s.data.toList (k + 1) = letB s[k].toNat := by
  unfold sofar at *
  rw [take_snoc s k h, lets_snoc]
  rw [Bool.and_eq_true] at ht
  rw [ht.1, ht.2]; simp

end Go.Proofs.YbulkbmhwFmt
