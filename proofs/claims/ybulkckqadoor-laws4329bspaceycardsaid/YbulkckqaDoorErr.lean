import Derived.Test.YbulkckqaDoorRows
import Derived.WalkKit
import Derived.WalkSpells
import Derived.WalkLawsBesides
import Derived.LaidEql
namespace Go.Proofs.YbulkckqaDoor
section
variable {P : Program} (w : World)

/-- two interface values that hold one pointer: '!=' is false -/
theorem run_neq_iface_ptr_same {ti tp te : TypeId} {ms : Array (String × TypeId)} {i j : TypeInfo} (a : Addr)
    (hi : P.underlying ti = some (.interface ms)) (hp : P.underlying tp = some (.pointer te)) (hinfo : P.info? tp = some i) (hcomp : i.comparable = true) (hte : P.info? te = some j) :
    (binOp .neq ti (.iface tp (.pointer (some a))) (.iface tp (.pointer (some a)))).run P w = .ok (.bool false) w := by
  simp only [binOp]
  simp [Op.equal, Op.maxDepth, run_equalIn_iface_ptr_same w 9998 a hi hp hinfo hcomp hte]

/-- two interface values that hold two pointers: '!=' is true -/
theorem run_neq_iface_ptr_other {ti tp te : TypeId} {ms : Array (String × TypeId)} {i j : TypeInfo} {a b : Addr} {ca cb : Array Value} {ta tb : TypeId}
    (hi : P.underlying ti = some (.interface ms)) (hp : P.underlying tp = some (.pointer te)) (hinfo : P.info? tp = some i) (hcomp : i.comparable = true) (hte : P.info? te = some j) (hsz : j.size ≠ 0)
    (hne : a ≠ b) (ha : w.heap[a.block]? = some (.cells ca ta (0, 0))) (hb : w.heap[b.block]? = some (.cells cb tb (0, 0))) :
    (binOp .neq ti (.iface tp (.pointer (some a))) (.iface tp (.pointer (some b)))).run P w = .ok (.bool true) w := by
  simp only [binOp]
  simp [Op.equal, Op.maxDepth, run_equalIn_iface_ptr_other w 9998 hi hp hinfo hcomp hte hsz hne ha hb]
end

theorem comp93 : (Ybad.prog.info? 93).map (·.comparable) = some true := by kernel_rfl
theorem size120 : (Ybad.prog.info? 120).map (·.size) = some 1 := by kernel_rfl

/-- A block that stood before a new one stands behind it. -/
theorem heap_past {w : World} {o ob : Obj} {b : Nat} (h : w.heap[b]? = some ob) : (w.alloc o).heap[b]? = some ob := by
  have hlt : b < w.heap.size := by
    rcases Nat.lt_or_ge b w.heap.size with h' | h'
    · exact h'
    · simp [Array.getElem?_eq_none h'] at h
  show (w.heap.push _)[b]? = _
  simp only [Array.getElem?_push, Nat.ne_of_lt hlt, if_false]
  exact h

end Go.Proofs.YbulkckqaDoor
