import Derived.Test.YbulkckrcDoorRows
import Derived.WalkKit
import Derived.LaidEqlPtr
namespace Go.Proofs.YbulkckrcDoor
open Go.RowKit
set_option linter.unusedVariables false
set_option maxRecDepth 100000

/-- '&Topic[int]{}': the cells of the zero topic -/
theorem build62 : ∃ A : Array Value, (∀ w : World, (zeroValue 62).run Ybad.prog w = .ok (.agg A) w) ∧ A.size = 396 ∧ A[71]? = some (.int .u64 0) ∧ A[128]? = some (.int .u64 0) ∧ A[185]? = some (.int .i64 0) ∧ A[316]? = some (.int .i64 0) :=
  ⟨((Ybad.prog.info? 62).bind (·.zero)).elim #[] Value.cells, fun w => by kernel_rfl, by kernel_rfl, by kernel_rfl, by kernel_rfl, by kernel_rfl, by kernel_rfl⟩

/-- '&Sub[int]{..}': the cells of the zero subscription -/
theorem zero71 : ∃ Z : Array Value, (∀ w : World, (zeroValue 70).run Ybad.prog w = .ok (.agg Z) w) ∧ Z.size = 131 ∧ Z[0]? = some (.slice none 0 0) ∧ Z[2]? = some (.int .i64 0) ∧ Z[3]? = some (.int .i64 0) ∧ Z[7]? = some (.int .u64 0) ∧ Z[8]? = some (.pointer none) ∧ Z[74]? = some (.int .u64 0) ∧ Z[4]? = some (.int .u64 0) ∧ Z[5]? = some (.int .u32 0) :=
  ⟨((Ybad.prog.info? 70).bind (·.zero)).elim #[] Value.cells, fun w => by kernel_rfl, by kernel_rfl, by kernel_rfl, by kernel_rfl, by kernel_rfl, by kernel_rfl, by kernel_rfl, by kernel_rfl, by kernel_rfl, by kernel_rfl⟩

/-- a part laid into a row of cells -/
theorem set_same (A : Array Value) (i : Nat) (v : Value) (h : i < A.size) : (A.setIfInBounds i v)[i]? = some v := by simp [h]
theorem set_other (A : Array Value) (i j : Nat) (v : Value) (h : i ≠ j) : (A.setIfInBounds i v)[j]? = A[j]? := by simp [Array.getElem?_setIfInBounds_ne h]

section
variable {P : Program} (w : World)
theorem run_equalIn_ptr_same' (d : Nat) {tp te : TypeId} {j : TypeInfo} (a : Addr) (hp : P.underlying tp = some (.pointer te)) (hte : P.info? te = some j) :
    (Op.equalIn (d + 1) tp (.pointer (some a)) (.pointer (some a))).run P w = .ok true w := by
  simp [Op.equalIn, run_underlying hp, sizeOf, typeInfo, hte, run_sameAddr_same]

/-- 'p != p' -/
theorem run_neq_ptr_same {tp te : TypeId} {j : TypeInfo} (a : Addr) (hp : P.underlying tp = some (.pointer te)) (hte : P.info? te = some j) :
    (binOp .neq tp (.pointer (some a)) (.pointer (some a))).run P w = .ok (.bool false) w := by
  simp only [binOp]
  simp [Op.equal, Op.maxDepth, run_equalIn_ptr_same' w 9999 a hp hte]
end

theorem size62 : (Ybad.prog.info? 62).map (·.size) = some 396 := by kernel_rfl
theorem size84 : (Ybad.prog.info? 78).map (·.size) = some 2 := by kernel_rfl
/-- 's.topic != t' -/
theorem neq25 (a : Addr) (w : World) : (binOp .neq 25 (.pointer (some a)) (.pointer (some a))).run Ybad.prog w = .ok (.bool false) w := by
  obtain ⟨j, hj, _⟩ := Option.map_eq_some_iff.1 size62
  exact run_neq_ptr_same w a Ybad.underlying25 hj
/-- 'm != m' at the messages -/
theorem neq65 (a : Addr) (w : World) : (binOp .neq 64 (.pointer (some a)) (.pointer (some a))).run Ybad.prog w = .ok (.bool false) w := by
  obtain ⟨j, hj, _⟩ := Option.map_eq_some_iff.1 size84
  exact run_neq_ptr_same w a Ybad.underlying64 hj

end Go.Proofs.YbulkckrcDoor
