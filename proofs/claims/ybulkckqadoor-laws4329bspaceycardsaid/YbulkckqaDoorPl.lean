namespace Go.Proofs.YbulkckqaDoor.Pl

/-- JSON's four blanks -/
def sp (z : Int) : Bool := z == 32 || z == 9 || z == 13 || z == 10
/-- the place just past the blanks from place k on -/
def skipN (zs : List Int) (k : Nat) : Nat := k + ((zs.drop k).takeWhile sp).length

theorem sp1 {z : Int} (h : (z == 32) = true) : sp z = true := by simp [sp, h]
theorem sp2 {z : Int} (h : (z == 9) = true) : sp z = true := by simp [sp, h]
theorem sp3 {z : Int} (h : (z == 13) = true) : sp z = true := by simp [sp, h]
theorem sp4 {z : Int} (h : (z == 10) = true) : sp z = true := by simp [sp, h]
theorem sp0 {z : Int} (h1 : (z == 32) = false) (h2 : (z == 9) = false) (h3 : (z == 13) = false) (h4 : (z == 10) = false) : sp z = false := by simp [sp, h1, h2, h3, h4]

theorem skip_past (zs : List Int) (k : Nat) (h : zs.length ≤ k) : skipN zs k = k := by
  unfold skipN
  rw [List.drop_eq_nil_of_le h]
  rfl

theorem drop_cons (zs : List Int) (k : Nat) (h : k < zs.length) : zs.drop k = zs.getD k 0 :: zs.drop (k + 1) := by
  rw [List.drop_eq_getElem_cons h]
  simp [List.getD, h]

theorem skip_on (zs : List Int) (k : Nat) (h : k < zs.length) (hs : sp (zs.getD k 0) = true) : skipN zs (k + 1) = skipN zs k := by
  unfold skipN
  rw [drop_cons zs k h, List.takeWhile_cons, hs]
  simp
  omega

theorem skip_stop (zs : List Int) (k : Nat) (h : k < zs.length) (hs : sp (zs.getD k 0) = false) : skipN zs k = k := by
  unfold skipN
  rw [drop_cons zs k h, List.takeWhile_cons, hs]
  simp

theorem skip_le (zs : List Int) (k : Nat) (h : k ≤ zs.length) : skipN zs k ≤ zs.length := by
  unfold skipN
  have := List.takeWhile_prefix sp (l := zs.drop k)
  have := this.length_le
  simp at this
  omega

end Go.Proofs.YbulkckqaDoor.Pl
