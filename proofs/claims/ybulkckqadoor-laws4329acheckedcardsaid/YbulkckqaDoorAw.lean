import Derived.Test.YbulkckqaDoorErr
namespace Go.Proofs.YbulkckqaDoor

/-- A cell that is there lies below the heap's size. -/
theorem lt_of_cell {w : World} {b o : Nat} {v : Value} (h : w.cell? ⟨b, o, none⟩ = some v) : b < w.heap.size := by
  rcases Nat.lt_or_ge b w.heap.size with h' | h'
  · exact h'
  · simp [World.cell?, Array.getElem?_eq_none h'] at h

set_option maxRecDepth 100000 in
set_option maxHeartbeats 400000 in
theorem a_bad (lone : Bool) (sa : Option Addr) (n c : Nat) (i d : Int) (a : Addr) (w : World)
    (hc : w.cell? ⟨0, 0, none⟩ = some (.iface 93 (.pointer (some a)))) :
    Calls Ybad.prog 3 #[.bool false, .bool lone, .slice sa n c, .int .i64 i, .int .i64 d] w fun e w' => e = .returned (.bool true) ∧ w' = w.alloc (.cells #[.slice sa n c, .int .i64 i, .int .i64 d, .bool lone] 25) := by
  obtain ⟨ti, hi, hcmp⟩ := Option.map_eq_some_iff.1 comp93
  obtain ⟨tj, hj, _⟩ := Option.map_eq_some_iff.1 size120
  have hq := fun w => run_neq_iface_ptr_same w a Ybad.underlying27 Ybad.underlying93 hi hcmp hj
  have hpos := lt_of_cell hc
  go_enter Ybad.func3, Ybad.ntmps3
  go_wp2
  go_ret
  exact ⟨rfl, rfl⟩

set_option maxRecDepth 100000 in
set_option maxHeartbeats 400000 in
theorem a_nil (sa : Option Addr) (n c : Nat) (i d : Int) (w : World) :
    Calls Ybad.prog 3 #[.bool true, .bool false, .slice sa n c, .int .i64 i, .int .i64 d] w fun e w' => e = .returned (.bool true) ∧ w' = w.alloc (.cells #[.slice sa n c, .int .i64 i, .int .i64 d, .bool false] 25) := by
  have hni : ∀ w : World, (binOp .neq 27 .nilIface .nilIface).run Ybad.prog w = .ok (.bool false) w := fun w => run_neq_nil_nil w 27 (by kernel_rfl)
  go_enter Ybad.func3, Ybad.ntmps3
  go_wp2
  go_ret
  exact ⟨rfl, rfl⟩

set_option maxRecDepth 100000 in
set_option maxHeartbeats 400000 in
theorem a_lone (sa : Option Addr) (n c : Nat) (i d : Int) (a0 a1 : Addr) (c0 c1 : Array Value) (t0 t1 : TypeId) (w : World)
    (hc0 : w.cell? ⟨0, 0, none⟩ = some (.iface 93 (.pointer (some a0)))) (hc1 : w.cell? ⟨1, 0, none⟩ = some (.iface 93 (.pointer (some a1)))) (hne : a1 ≠ a0)
    (hb0 : w.heap[a0.block]? = some (.cells c0 t0 (0, 0))) (hb1 : w.heap[a1.block]? = some (.cells c1 t1 (0, 0))) :
    Calls Ybad.prog 3 #[.bool true, .bool true, .slice sa n c, .int .i64 i, .int .i64 d] w fun e w' => e = .returned (.bool true) ∧ w' = w.alloc (.cells #[.slice sa n c, .int .i64 i, .int .i64 d, .bool true] 25) := by
  obtain ⟨ti, hi, hcmp⟩ := Option.map_eq_some_iff.1 comp93
  obtain ⟨tj, hj, hjs⟩ := Option.map_eq_some_iff.1 size120
  have hq := fun w => run_neq_iface_ptr_same w a1 Ybad.underlying27 Ybad.underlying93 hi hcmp hj
  have hq2 := run_eql_iface_ptr_other (w.alloc (.cells #[.slice sa n c, .int .i64 i, .int .i64 d, .bool true] 25)) Ybad.underlying27 Ybad.underlying93 hi hcmp hj (by rw [hjs]; decide) hne (heap_past hb1) (heap_past hb0)
  have hpos := lt_of_cell hc0
  have hpos1 := lt_of_cell hc1
  clear hb0 hb1
  go_enter Ybad.func3, Ybad.ntmps3
  go_wp2
  go_ret
  exact ⟨rfl, rfl⟩

end Go.Proofs.YbulkckqaDoor
