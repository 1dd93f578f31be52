/-
  PLAIN: ids built from picks in a table of 63 bytes, of which the first 52 are letters: no Go in sight.
-/
import Derived.Test.YbulkbmhwFmtPlain
namespace Go.Proofs.YbulkbmhwFmt

def tbl : List UInt8 := [97, 98, 99, 100, 101, 102, 103, 104, 105, 106, 107, 108, 109, 110, 111, 112, 113, 114, 115, 116, 117, 118, 119, 120, 121, 122, 65, 66, 67, 68, 69, 70, 71, 72, 73, 74, 75, 76, 77, 78, 79, 80, 81, 82, 83, 84, 85, 86, 87, 88, 89, 90, 48, 64, 91, 96, 123, 57, 95, 45, 32, 128, 255]

/-- the byte at place k of the table -/
def tb (k : Nat) : UInt8 := tbl.getD k 0

/-- the byte that a pick falls on -/
def pickB (z : Int) : UInt8 := tb (z % 63).toNat

def built (zs : List Int) : List UInt8 := zs.map pickB

/-- every pick falls on a letter -/
def allL (zs : List Int) : Bool := zs.all fun z => decide (z % 63 < 52)

theorem tb_letter : ∀ k : Fin 63, letB ((tb k.val).toNat : Nat) = decide (k.val < 52) := by decide

theorem pick_letter (z : Int) : letB ((pickB z).toNat : Nat) = decide (z % 63 < 52) := by
  have h := tb_letter ⟨(z % 63).toNat, by omega⟩
  unfold pickB
  rw [h, decide_eq_decide]
  show (z % 63).toNat < 52 ↔ z % 63 < 52
  omega

theorem lets_built (zs : List Int) : lets (built zs) = allL zs := by
  unfold lets built allL
  rw [List.all_map]
  congr 1
  funext z
  exact pick_letter z

theorem okId_built (zs : List Int) : okId (built zs) = (decide (1 ≤ zs.length ∧ zs.length ≤ 16) && allL zs) := by
  unfold okId; rw [lets_built]; simp [built]

theorem built_snoc (zs : List Int) (z : Int) : built (zs ++ [z]) = built zs ++ [pickB z] := by simp [built]
theorem allL_snoc (zs : List Int) (z : Int) : allL (zs ++ [z]) = (allL zs && decide (z % 63 < 52)) := by simp [allL]
theorem takeI_snoc (zs : List Int) (k : Nat) (h : k < zs.length) : zs.take (k + 1) = zs.take k ++ [zs.getD k 0] := by
  rw [List.take_succ_eq_append_getElem h]; simp [List.getD, h]
theorem built_length (zs : List Int) : (built zs).length = zs.length := by simp [built]

end Go.Proofs.YbulkbmhwFmt
