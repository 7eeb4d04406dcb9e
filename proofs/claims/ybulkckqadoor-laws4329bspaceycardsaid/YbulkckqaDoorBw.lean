import Derived.Test.YbulkckqaDoorBy
import Derived.Test.YbulkckqaDoorBn
namespace Go.Proofs.YbulkckqaDoor
open Go.RowKit
set_option linter.unusedVariables false

/-- zzs4329bcheck answers true. -/
theorem check_any (sa : Option Addr) (n c : Nat) (zs : List Int) (i : Nat) (d : Int) (lone : Bool) (a : Addr) (w : World) (hS : Src w sa n c zs) (hn : n ≤ 1024) (hi : i ≤ 4096)
    (hc : w.cell? ⟨0, 0, none⟩ = some (.iface 93 (.pointer (some a)))) :
    Calls Ybad.prog 10 #[.slice sa n c, .int .i64 (i : Int), .int .i64 d, .bool lone] w fun e w' => e = .returned (.bool true) ∧ Below w.heap.size w w' := by
  by_cases hin : i ≤ n
  · have h0 : n ≤ 0 → Pl.skipN zs i = n := fun h => by rw [Pl.skip_past zs i (by have := hS.1; omega)]; omega
    by_cases hz : n ≤ 0
    · exact check_zero sa n c zs i d lone a w hS hn hin hz (h0 hz) hc
    · have hS' := hS
      obtain ⟨_, h | ⟨x, rfl, h | ⟨hx, _⟩⟩⟩ := hS
      · omega
      · omega
      · rw [hx] at hS' ⊢
        by_cases hs : Pl.skipN zs i = n
        · exact check_yes _ _ n c zs i d lone a w hS' hn hin hs hc
        · exact check_no _ _ n c zs i d lone a w hS' hn hin hs hc
  · exact check_out sa n c zs i d lone a w hS hn hi (by omega) hc

set_option maxRecDepth 100000 in
set_option maxHeartbeats 400000 in
theorem model_long (sa : Option Addr) (n c : Nat) (x : Int) (d : Int) (lone : Bool) (w : World) (hn : 1024 < n) (hm : n ≤ maxLen) :
    Calls Ybad.prog 4 #[.slice sa n c, .int .u64 x, .int .i64 d, .bool lone] w fun e w' => e = .returned (.bool true) ∧ Below w.heap.size w w' := by
  unfold maxLen at hm
  have t0 : (1024 : Int) < (n : Int) := by omega
  go_enter Ybad.func4, Ybad.ntmps4
  go_wp2
  go_ret
  exact ⟨rfl, Below.refl _ _⟩

theorem idx_of (x : Int) (n m : Nat) (hn : n ≤ 1024) (hm : m ≤ 8) (hx0 : 0 ≤ x) (hm0 : 1 ≤ m) : ∃ i : Nat, wrap64 (x % ((n : Int) + (m : Int))) = (i : Int) ∧ i ≤ 4096 := by
  have h1 := Int.emod_nonneg x (show ((n : Int) + (m : Int)) ≠ 0 by omega)
  have h2 := Int.emod_lt_of_pos x (show 0 < ((n : Int) + (m : Int)) by omega)
  generalize x % ((n : Int) + (m : Int)) = y at h1 h2
  refine ⟨y.toNat, ?_, by omega⟩
  unfold wrap64
  omega

set_option maxRecDepth 100000 in
set_option maxHeartbeats 400000 in
theorem model_any (sa : Option Addr) (n c : Nat) (zs : List Int) (x : Int) (d : Int) (lone : Bool) (a : Addr) (w : World) (hS : Src w sa n c zs) (hn : n ≤ 1024) (hx0 : 0 ≤ x) (hx1 : x < 18446744073709551616)
    (hc : w.cell? ⟨0, 0, none⟩ = some (.iface 93 (.pointer (some a)))) :
    Calls Ybad.prog 4 #[.slice sa n c, .int .u64 x, .int .i64 d, .bool lone] w fun e w' => e = .returned (.bool true) ∧ Below w.heap.size w w' := by
  have HC : Hid (∀ i : Nat, i ≤ 4096 → Calls Ybad.prog 10 #[.slice sa n c, .int .i64 (i : Int), .int .i64 d, .bool lone] w fun e w' => e = .returned (.bool true) ∧ Below w.heap.size w w') := fun i hi => check_any sa n c zs i d lone a w hS hn hi hc
  clear hS hc
  go_enter Ybad.func4, Ybad.ntmps4
  go_wp2_with fail
  obtain ⟨i, hi, hi2⟩ := idx_of x n 3 hn (by omega) hx0 (by omega)
  rw [show ((3 : Nat) : Int) = 3 from rfl] at hi
  rw [hi]
  refine (HC.out i hi2).mono ?_
  rintro e w1 ⟨rfl, hb⟩
  have HB : Hid (Below w.heap.size w w1) := hb
  clear hb HC hi
  go_wp2
  go_ret
  exact ⟨rfl, HB.out⟩

end Go.Proofs.YbulkckqaDoor
