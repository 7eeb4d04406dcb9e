import Derived.Test.YbulkckqaDoorRows
import Derived.Test.YbulkckqaDoorPl
import Derived.WalkKit
import Derived.WalkSpells
import Derived.WalkLawsBesides
import Derived.Deep.LoopGhost
import Derived.Deep.QuietTactic
import Derived.BigQuiet
namespace Go.Proofs.YbulkckqaDoor
open Go.RowKit
set_option linter.unusedVariables false

/-- The Reader in block rb, its text n cells of block g. -/
structure Rd (w : World) (rb g n : Nat) (i d : Int) (lone : Bool) : Prop where
  c0 : w.cell? ⟨rb, 0, none⟩ = some (.slice (some ⟨g, 0, none⟩) n n)
  c1 : w.cell? ⟨rb, 1, none⟩ = some (.int .i64 i)
  c2 : w.cell? ⟨rb, 2, none⟩ = some (.int .i64 d)
  c3 : w.cell? ⟨rb, 3, none⟩ = some (.bool lone)
  fz : w.frozen? ⟨rb, 1, none⟩ = false

theorem Rd.drewN {w : World} {rb g n : Nat} {i d : Int} {lone : Bool} (h : Rd w rb g n i d lone) (q : Nat) : Rd (w.drewN q) rb g n i d lone := ⟨h.c0, h.c1, h.c2, h.c3, h.fz⟩

theorem Rd.set {w : World} {rb g n : Nat} {i d : Int} {lone : Bool} (h : Rd w rb g n i d lone) (k : Int) : Rd (w.setCell ⟨rb, 1, none⟩ (.int .i64 k)) rb g n k d lone :=
  ⟨(World.cell?_setCell_other _ _ _ _ (by simp)).trans h.c0, World.cell?_setCell_same _ _ _ h.c1, (World.cell?_setCell_other _ _ _ _ (by simp)).trans h.c2, (World.cell?_setCell_other _ _ _ _ (by simp)).trans h.c3, by simp [h.fz]⟩

theorem below_drewN' {B q : Nat} {w w' : World} (h : Below B w w') : Below B w (w'.drewN q) := ⟨h.os, h.tape, h.output, h.size, h.block⟩

theorem below_set {rb : Nat} {o : Nat} {v : Value} {w w' : World} (h : Below rb w w') : Below rb w (w'.setCell ⟨rb, o, none⟩ v) := h.setCell (Nat.le_refl _) _

theorem size_setCell (w : World) (a : Addr) (v : Value) : (w.setCell a v).heap.size = w.heap.size := by simp [World.setCell]

set_option maxRecDepth 100000 in
set_option maxHeartbeats 400000 in
theorem skip_any (rb g n : Nat) (zs : List Int) (i : Nat) (d : Int) (lone : Bool) (w : World) (hr : Rd w rb g n i d lone) (hg : g < rb)
    (hz : zs.length = n) (hn : n ≤ 1024) (hi : i ≤ 4096) (hcell : ∀ j, j < n → w.cell? ⟨g, j, none⟩ = some (.int .u8 (zs.getD j 0))) :
    Calls Ybad.prog 25 #[.pointer (some ⟨rb, 0, none⟩)] w fun e w' => e = .returned (.tuple #[]) ∧ Below rb w w' ∧ w'.heap.size = w.heap.size ∧ Rd w' rb g n (Pl.skipN zs i) d lone := by
  go_enter Ybad.func25, Ybad.ntmps25
  go_wp2
  go_loopg [] (4096 + n - i) (fun gk wr => ∃ k : Nat, i ≤ k ∧ (k ≤ i ∨ k ≤ n) ∧ gk = 4096 + n - k ∧ Pl.skipN zs k = Pl.skipN zs i ∧ Below rb w wr ∧ wr.heap.size = w.heap.size ∧ Rd wr rb g n k d lone)
  case atStart => exact ⟨i, Nat.le_refl _, .inl (Nat.le_refl _), rfl, rfl, Below.refl _ _, rfl, hr⟩
  case round =>
    obtain ⟨k, hik, hkn, rfl, hsk, hb, hsz, hrd⟩ := hrel
    have hrd' := hrd
    obtain ⟨c0, c1, c2, c3, fz⟩ := hrd
    have HRD : Hid (Rd wr rb g n k d lone) := hrd'
    clear hrd'
    by_cases hlt : k < n
    · have hc := (hb.cell (p := ⟨g, k, none⟩) hg).trans (hcell k hlt)
      have hk0 : (k : Int) < (n : Int) := by omega
      have HSK : Hid (Pl.skipN zs k = Pl.skipN zs i ∧ zs.length = n ∧ wr.heap.size = w.heap.size) := ⟨hsk, hz, hsz⟩
      clear hsk hcell hz hsz
      generalize hzz : zs.getD k 0 = z at hc
      have HZ : Hid (zs.getD k 0 = z) := hzz
      clear hzz
      go_wp2
      go_quiet (fail)
      go_wp2
      go_quiet (fail)
      go_wp2
      iterate 4
        · go_roundg (4096 + n - (k + 1))
          case measure => omega
          case rel =>
            obtain ⟨hsk, hz, hsz⟩ := HSK.out
            have hs : Pl.sp z = true := by first | exact Pl.sp1 ‹_› | exact Pl.sp2 ‹_› | exact Pl.sp3 ‹_› | exact Pl.sp4 ‹_›
            refine ⟨k + 1, by omega, by omega, rfl, ?_, below_set (below_drewN' hb), (size_setCell _ _ _).trans hsz, (HRD.out.drewN _).set _⟩
            rw [Pl.skip_on zs k (by omega) (by rw [HZ.out]; exact hs)]
            exact hsk
      · obtain ⟨hsk, hz, hsz⟩ := HSK.out
        refine bodyPost_ret (results_none rfl _ _ _) rfl ⟨rfl, below_drewN' hb, hsz, ?_⟩
        rw [← hsk, Pl.skip_stop zs k (by omega) (by rw [HZ.out]; exact Pl.sp0 (by assumption) (by assumption) (by assumption) (by assumption))]
        exact HRD.out.drewN _
    · have hk0 : decide ((k : Int) < (n : Int)) = false := decide_eq_false (by omega)
      have HSK : Hid (Pl.skipN zs k = Pl.skipN zs i ∧ zs.length = n ∧ wr.heap.size = w.heap.size) := ⟨hsk, hz, hsz⟩
      clear hsk hcell hz hsz
      go_wp2
      go_quiet (fail)
      go_wp2
      obtain ⟨hsk, hz, hsz⟩ := HSK.out
      go_end0
      refine ⟨rfl, below_drewN' hb, hsz, ?_⟩
      rw [← hsk, Pl.skip_past zs k (by omega)]
      exact HRD.out.drewN _

end Go.Proofs.YbulkckqaDoor
