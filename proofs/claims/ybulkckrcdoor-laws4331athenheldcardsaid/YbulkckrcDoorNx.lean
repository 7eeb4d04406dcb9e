import Derived.Test.YbulkckrcDoorSk
namespace Go.Proofs.YbulkckrcDoor
open Go.RowKit
set_option linter.unusedVariables false

/-- the subscription in block sb -/
structure Sb (w : World) (sb g S T : Nat) (next pos en known : Int) (held : Value) : Prop where
  c0 : w.cell? ⟨sb, 0, none⟩ = some (.slice (some ⟨g, 0, none⟩) S S)
  c1 : w.cell? ⟨sb, 1, none⟩ = some (.int .u64 next)
  c2 : w.cell? ⟨sb, 2, none⟩ = some (.int .i64 pos)
  c3 : w.cell? ⟨sb, 3, none⟩ = some (.int .i64 en)
  c4 : w.cell? ⟨sb, 4, none⟩ = some (.int .u64 0)
  c5 : w.cell? ⟨sb, 5, none⟩ = some (.int .u32 0)
  c6 : w.cell? ⟨sb, 6, none⟩ = some (.pointer (some ⟨T, 0, none⟩))
  c7 : w.cell? ⟨sb, 7, none⟩ = some (.int .u64 known)
  c8 : w.cell? ⟨sb, 8, none⟩ = some held
  fz : ∀ o, w.frozen? ⟨sb, o, none⟩ = false

theorem below_drewN' {B q : Nat} {w w' : World} (h : Below B w w') : Below B w (w'.drewN q) := ⟨h.os, h.tape, h.output, h.size, h.block⟩
theorem below_set {B o : Nat} {v : Value} {w w' : World} (h : Below B w w') : Below B w (w'.setCell ⟨B, o, none⟩ v) := h.setCell (Nat.le_refl _) _

theorem Sb.drewN {w : World} {sb g S T : Nat} {next pos en known : Int} {held : Value} (h : Sb w sb g S T next pos en known held) (n : Nat) : Sb (w.drewN n) sb g S T next pos en known held := ⟨h.1, h.2, h.3, h.4, h.5, h.6, h.7, h.8, h.9, h.10⟩
theorem Sb.setNext {w : World} {sb g S T : Nat} {next pos en known : Int} {held : Value} (h : Sb w sb g S T next pos en known held) (x : Int) : Sb (w.setCell ⟨sb, 1, none⟩ (.int .u64 x)) sb g S T x pos en known held :=
  ⟨(cell_other (by decide)).trans h.1, World.cell?_setCell_same _ _ _ h.2, (cell_other (by decide)).trans h.3, (cell_other (by decide)).trans h.4, (cell_other (by decide)).trans h.5, (cell_other (by decide)).trans h.6, (cell_other (by decide)).trans h.7, (cell_other (by decide)).trans h.8, (cell_other (by decide)).trans h.9, fun o => by simp [h.10 o]⟩
theorem Sb.setPos {w : World} {sb g S T : Nat} {next pos en known : Int} {held : Value} (h : Sb w sb g S T next pos en known held) (x : Int) : Sb (w.setCell ⟨sb, 2, none⟩ (.int .i64 x)) sb g S T next x en known held :=
  ⟨(cell_other (by decide)).trans h.1, (cell_other (by decide)).trans h.2, World.cell?_setCell_same _ _ _ h.3, (cell_other (by decide)).trans h.4, (cell_other (by decide)).trans h.5, (cell_other (by decide)).trans h.6, (cell_other (by decide)).trans h.7, (cell_other (by decide)).trans h.8, (cell_other (by decide)).trans h.9, fun o => by simp [h.10 o]⟩
theorem Sb.setEnd {w : World} {sb g S T : Nat} {next pos en known : Int} {held : Value} (h : Sb w sb g S T next pos en known held) (x : Int) : Sb (w.setCell ⟨sb, 3, none⟩ (.int .i64 x)) sb g S T next pos x known held :=
  ⟨(cell_other (by decide)).trans h.1, (cell_other (by decide)).trans h.2, (cell_other (by decide)).trans h.3, World.cell?_setCell_same _ _ _ h.4, (cell_other (by decide)).trans h.5, (cell_other (by decide)).trans h.6, (cell_other (by decide)).trans h.7, (cell_other (by decide)).trans h.8, (cell_other (by decide)).trans h.9, fun o => by simp [h.10 o]⟩
theorem Sb.setHeld {w : World} {sb g S T : Nat} {next pos en known : Int} {held : Value} (h : Sb w sb g S T next pos en known held) (x : Value) : Sb (w.setCell ⟨sb, 8, none⟩ x) sb g S T next pos en known x :=
  ⟨(cell_other (by decide)).trans h.1, (cell_other (by decide)).trans h.2, (cell_other (by decide)).trans h.3, (cell_other (by decide)).trans h.4, (cell_other (by decide)).trans h.5, (cell_other (by decide)).trans h.6, (cell_other (by decide)).trans h.7, (cell_other (by decide)).trans h.8, World.cell?_setCell_same _ _ _ h.9, fun o => by simp [h.10 o]⟩

set_option maxRecDepth 100000 in
set_option maxHeartbeats 400000 in
theorem advance_any (sb g S T o q : Nat) (en : Int) (held : Value) (w : World) (h : Sb w sb g S T o q en o held) (hS : S ≤ 300) (hq : q < S) (ho : o ≤ 5000000000) :
    Calls Ybad.prog 14 #[.pointer (some ⟨sb, 0, none⟩)] w fun e w' => e = .returned (.tuple #[]) ∧ Below sb w w' ∧ ∃ p : Int, Sb w' sb g S T ((o : Int) + 1) p p o held := by
  have HS : Hid (Sb w sb g S T o q en o held) := h
  obtain ⟨c0, c1, c2, c3, c4, c5, c6, c7, c8, fz⟩ := h
  have f1 := fz 1
  have f2 := fz 2
  have f3 := fz 3
  clear fz
  have t1 : decide ((o : Int) + 1 < (o : Int)) = false := decide_eq_false (by omega)
  by_cases hqS : q + 1 = S
  · have t2 : ((q : Int) + 1 == (S : Int)) = true := beq_iff_eq.2 (by omega)
    clear hqS
    go_enter Ybad.func14, Ybad.ntmps14
    go_wp2
    go_quiet (fail)
    have H1 : Hid (Sb (((w.setCell ⟨sb, 1, none⟩ (.int .u64 ((o : Int) + 1))).setCell ⟨sb, 2, none⟩ (.int .i64 ((q : Int) + 1))).drewN nq) sb g S T ((o : Int) + 1) ((q : Int) + 1) en o held ∧ Below sb w (((w.setCell ⟨sb, 1, none⟩ (.int .u64 ((o : Int) + 1))).setCell ⟨sb, 2, none⟩ (.int .i64 ((q : Int) + 1))).drewN nq)) :=
      ⟨((HS.out.setNext _).setPos _).drewN _, below_drewN' (below_set (below_set (Below.refl _ _)))⟩
    generalize ((w.setCell ⟨sb, 1, none⟩ (.int .u64 ((o : Int) + 1))).setCell ⟨sb, 2, none⟩ (.int .i64 ((q : Int) + 1))).drewN nq = W1 at H1 ⊢
    clear c0 c1 c2 c3 c4 c5 c6 c7 c8 f1 f2 f3
    obtain ⟨⟨c0, c1, c2, c3, c4, c5, c6, c7, c8, fz⟩, _⟩ := H1.out
    have f2 := fz 2
    have f3 := fz 3
    clear fz
    have k2 : (W1.setCell ⟨sb, 2, none⟩ (.int .i64 0)).cell? ⟨sb, 2, none⟩ = some (.int .i64 0) := World.cell?_setCell_same _ _ _ c2
    go_wp2
    go_quiet (fail)
    go_wp2
    go_end0
    exact ⟨rfl, below_drewN' (below_set (below_set H1.out.2)), 0, ((H1.out.1.setPos 0).setEnd 0).drewN _⟩
  · have t2 : ((q : Int) + 1 == (S : Int)) = false := beq_eq_false_iff_ne.2 (by omega)
    clear hqS
    go_enter Ybad.func14, Ybad.ntmps14
    go_wp2
    go_quiet (fail)
    go_wp2
    go_quiet (fail)
    go_wp2
    go_end0
    exact ⟨rfl, below_drewN' (below_set (below_drewN' (below_set (below_set (Below.refl _ _))))), (q : Int) + 1, ((((HS.out.setNext _).setPos _).drewN _).setEnd _).drewN _⟩

set_option maxRecDepth 100000 in
set_option maxHeartbeats 400000 in
theorem owes_no (sb g S T : Nat) (next pos en known x : Int) (held : Value) (w : World) (h : Sb w sb g S T next pos en known held) (hn : w.cell? ⟨T, 128, none⟩ = some (.int .u64 0)) :
    Calls Ybad.prog 15 #[.pointer (some ⟨sb, 0, none⟩), .int .u64 x] w fun e w' => e = .returned (.bool false) ∧ w' = w := by
  obtain ⟨c0, c1, c2, c3, c4, c5, c6, c7, c8, fz⟩ := h
  go_enter Ybad.func15, Ybad.ntmps15
  go_wp2_with fail
  refine (u64_load _ _ _ _ hn).mono ?_
  rintro e w1 ⟨rfl, rfl⟩
  go_wp2
  go_ret
  exact ⟨rfl, rfl⟩

set_option maxRecDepth 100000 in
set_option maxHeartbeats 800000 in
theorem next_any (sb g S T o q mb : Nat) (en v : Int) (w : World) (h : Sb w sb g S T o q en o (.pointer (some ⟨mb, 0, none⟩))) (hm : Msg w mb o v) (hn : w.cell? ⟨T, 128, none⟩ = some (.int .u64 0)) (hS : S ≤ 300) (hq : q < S) (ho : o ≤ 5000000000) (hT : T < sb) (hmb : mb < sb) :
    Calls Ybad.prog 6 #[.pointer (some ⟨sb, 0, none⟩)] w fun e w' => e = .returned (.tuple #[.int .i64 v, .nilIface]) ∧ Below sb w w' ∧ ∃ p : Int, Sb w' sb g S T ((o : Int) + 1) p p o (.pointer none) := by
  have HS : Hid (Sb w sb g S T o q en o (.pointer (some ⟨mb, 0, none⟩)) ∧ Msg w mb o v) := ⟨h, hm⟩
  obtain ⟨c0, c1, c2, c3, c4, c5, c6, c7, c8, fz⟩ := h
  have f8 := fz 8
  have m0 := hm.c0
  have m1 := hm.c1
  clear fz hm
  go_enter Ybad.func6, Ybad.ntmps6
  go_wp2_with fail
  refine (b_load _ _ _ c5).mono ?_
  rintro e w1 ⟨rfl, hw⟩
  obtain rfl : w = w1 := hw.symm
  have ht : ((o : Int) != (o : Int)) = false := by simp
  go_wp2_with fail
  go_quiet (fail)
  go_wp2_with fail
  refine (advance_any sb g S T o q en (.pointer none) ((w.setCell ⟨sb, 8, none⟩ (.pointer none)).drewN nq) ((HS.out.1.setHeld _).drewN nq) hS hq ho).mono ?_
  rintro e w2 ⟨rfl, hb2, p, hs2⟩
  have H2 : Hid (Sb w2 sb g S T ((o : Int) + 1) p p o (.pointer none) ∧ Below sb w w2) := ⟨hs2, (below_drewN' (below_set (Below.refl _ _))).trans hb2⟩
  have n2 := (H2.out.2.cell (p := ⟨T, 128, none⟩) hT).trans hn
  clear hb2 c0 c1 c2 c3 c4 c5 c6 c7 c8 f8 m0 m1 hn ht HS
  obtain ⟨c0, c1, c2, c3, c4, c5, c6, c7, c8, fz⟩ := hs2
  clear fz c0 c2 c3 c4 c5 c7 c8
  go_wp2_with fail
  refine (owes_no _ _ _ _ _ _ _ _ _ _ _ H2.out.1 n2).mono ?_
  rintro e w3 ⟨rfl, hw⟩
  obtain rfl : w2 = w3 := hw.symm
  go_wp2
  go_ret2
  exact ⟨rfl, H2.out.2, p, H2.out.1⟩

end Go.Proofs.YbulkckrcDoor
