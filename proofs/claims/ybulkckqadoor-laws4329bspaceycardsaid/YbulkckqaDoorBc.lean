import Derived.Test.YbulkckqaDoorErr
import Derived.Test.YbulkckqaDoorBm
namespace Go.Proofs.YbulkckqaDoor
open Go.RowKit
set_option linter.unusedVariables false

/-- a cell that is there lies below the heap's size -/
theorem lt_of_cell' {w : World} {b o : Nat} {v : Value} (h : w.cell? ⟨b, o, none⟩ = some v) : b < w.heap.size := by
  rcases Nat.lt_or_ge b w.heap.size with h' | h'
  · exact h'
  · simp [World.cell?, Array.getElem?_eq_none h'] at h

theorem rd_new {W2 : World} {g n : Nat} {i d : Int} {lone : Bool} : Rd (W2.alloc (.cells #[.slice (some ⟨g, 0, none⟩) n n, .int .i64 i, .int .i64 d, .bool lone] 25)) W2.heap.size g n i d lone :=
  ⟨World.cell?_alloc_at _ _ _ _ rfl, World.cell?_alloc_at _ _ _ _ rfl, World.cell?_alloc_at _ _ _ _ rfl, World.cell?_alloc_at _ _ _ _ rfl, World.frozen?_alloc_at _ _ _ _ rfl⟩

/-- what stands behind End -/
theorem after {w W2 w3 : World} {O : Obj} {sa : Option Addr} {n c : Nat} {zs : List Int} (hS : Src w sa n c zs) (hb2 : Below w.heap.size w W2) (hsz2 : W2.heap.size = w.heap.size + 1)
    (hcl2 : ∀ j, j < n → W2.cell? ⟨w.heap.size, j, none⟩ = some (.int .u8 (zs.getD j 0))) (hb3 : Below W2.heap.size (W2.alloc O) w3) :
    Below w.heap.size w w3 ∧ Src w3 sa n c zs ∧ Src w3 (some ⟨w.heap.size, 0, none⟩) n n zs := by
  have hb : Below w.heap.size w w3 := (hb2.alloc (by omega) O).trans (hb3.mono (by omega))
  refine ⟨hb, hS.later hb, hS.1, .inr ⟨_, rfl, .inr ⟨rfl, fun j hj => ?_⟩⟩⟩
  rw [hb3.cell (p := ⟨w.heap.size, 0 + j, none⟩) (by show w.heap.size < W2.heap.size; omega), World.cell?_alloc_past _ _ _ (by omega), Nat.zero_add]
  exact hcl2 j hj

set_option maxRecDepth 100000 in
set_option maxHeartbeats 400000 in
theorem check_out (sa : Option Addr) (n c : Nat) (zs : List Int) (i : Nat) (d : Int) (lone : Bool) (a : Addr) (w : World) (hS : Src w sa n c zs) (hn : n ≤ 1024) (hi : i ≤ 4096) (hout : n < i)
    (hc : w.cell? ⟨0, 0, none⟩ = some (.iface 93 (.pointer (some a)))) :
    Calls Ybad.prog 10 #[.slice sa n c, .int .i64 (i : Int), .int .i64 d, .bool lone] w fun e w' => e = .returned (.bool true) ∧ Below w.heap.size w w' := by
  obtain ⟨ti, hti, hcmp⟩ := Option.map_eq_some_iff.1 comp93
  obtain ⟨tj, htj, _⟩ := Option.map_eq_some_iff.1 size120
  have hq := fun w => run_neq_iface_ptr_same w a Ybad.underlying27 Ybad.underlying93 hti hcmp htj
  obtain ⟨C, hC, hmk⟩ := make_bytes n hn
  obtain ⟨W2, hcp, hb2, hsz2, hcl2⟩ := copy_in hS C hC
  have hlen := hS.1
  have hpos := lt_of_cell' hc
  have hend := end_no W2.heap.size w.heap.size n zs i d lone a (W2.alloc (.cells #[.slice (some ⟨w.heap.size, 0, none⟩) n n, .int .i64 (i : Int), .int .i64 d, .bool lone] 25)) rd_new (by omega) hlen hn hi
    (fun j hj => by rw [World.cell?_alloc_past _ _ _ (by omega)]; exact hcl2 j hj) (by rw [Pl.skip_past zs i (by omega)]; omega)
    (by rw [World.cell?_alloc_past _ _ _ (by omega), hb2.cell (p := ⟨0, 0, none⟩) hpos]; exact hc)
  rw [Pl.skip_past zs i (by omega)] at hend
  have HS : Hid (Src w sa n c zs ∧ Below w.heap.size w W2 ∧ W2.heap.size = w.heap.size + 1 ∧ ∀ j, j < n → W2.cell? ⟨w.heap.size, j, none⟩ = some (.int .u8 (zs.getD j 0))) := ⟨hS, hb2, hsz2, hcl2⟩
  have HE := hend
  clear hS hsz2 hcl2 hC hti hcmp htj hlen hend hb2
  have t1 : decide ((i : Int) ≤ (n : Int)) = false := decide_eq_false (by omega)
  have t2 : ((i : Int) == (n : Int)) = false := beq_eq_false_iff_ne.2 (by omega)
  go_enter Ybad.func10, Ybad.ntmps10
  go_wp2_with fail
  refine HE.mono ?_
  rintro e w3 ⟨rfl, hb3, hsz3, c0, c1, c2, c3, fz⟩
  obtain ⟨hb, hS3, hC3⟩ := after HS.out.1 HS.out.2.1 HS.out.2.2.1 HS.out.2.2.2 hb3
  have hv1 := hS3.convert
  have hv2 := hC3.convert
  have hc3 := (hb.cell (p := ⟨0, 0, none⟩) hpos).trans hc
  have HB : Hid (Below w.heap.size w w3) := hb
  clear hb3 hsz3 hS3 hC3 HE hcp hmk HS hb hc
  go_wp2_with fail
  refine (equal_any _ _ _ _ _ _ _ _ hv2 hv1).mono ?_
  rintro e w4 ⟨rfl, rfl⟩
  go_wp2_with fail
  refine (equal_any _ _ _ _ _ _ _ _ hv2 hv1).mono ?_
  rintro e w4 ⟨rfl, rfl⟩
  go_wp2
  go_ret
  exact ⟨rfl, HB.out⟩

end Go.Proofs.YbulkckqaDoor
