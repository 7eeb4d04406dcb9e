import Derived.Test.YbulkckqaDoorRows
import Derived.ProofKit
import Derived.LaidMore
import Derived.LaidLaws
import Derived.OpenShut
import Derived.Stop.Joined
import Derived.Stop.ErrReads
import Derived.RowKitTokens
import Derived.WalkLawsBesides
import Derived.ShutString
import Derived.ChangeOld
import Derived.Below
namespace Go.Proofs.YbulkckqaDoor
open Go.ChangeShapes Go.WideShapes Go.ChangeAt Go.RowKit
set_option maxRecDepth 100000

theorem own : ownKnob Ybad.prog.godebug = none := by kernel_rfl
theorem laidOut : laidOutB Ybad.prog = true := by kernel_rfl
/-- The two variables' names, and the name of the type that they hold, off the given rows. -/
abbrev nSyn : String := Rows.lawS4329ACheckedSpec.vars.headD ""
abbrev nLone : String := (Rows.lawS4329ACheckedSpec.vars.drop 1).headD ""
def nameIn : DataW Unit → String
  | .iface n _ => n
  | _ => ""
abbrev nErr : String := nameIn (Rows.laid_example_com_cycleport_cycleport_internal_jsonread_ErrLoneSurrogate)
theorem gSyn : Ybad.prog.globalNamed nSyn = some 0 := by kernel_rfl
theorem gLone : Ybad.prog.globalNamed nLone = some 1 := by kernel_rfl
theorem tSyn : (Ybad.prog.globals[0]?).map (·.type) = some 27 := by kernel_rfl
theorem tLone : (Ybad.prog.globals[1]?).map (·.type) = some 27 := by kernel_rfl
theorem cells120 : Ybad.prog.cellsOf 120 = 1 := by kernel_rfl
theorem cells9 : Ybad.prog.cellsOf 9 = 1 := by kernel_rfl
theorem row93 (u : TypeId) (h : Ybad.prog.typeName? 3 u = some nErr) : u = 93 :=
  typeName_ptr_named (nm := "errors.errorString") (by kernel_rfl) (by kernel_rfl) (by decide) u (h.trans (by kernel_rfl))

/-- WHAT THE WALK IS TOLD OF A SLICE OF INTEGERS THAT CAME IN. -/
def IsRow (k : IntKind) (w : World) (a : Option Addr) (len cap : Nat) (zs : List Int) : Prop :=
  (a = none ∧ len = 0 ∧ cap = 0 ∧ zs = []) ∨
  ∃ x, a = some x ∧ len ≤ cap ∧ cap ≤ maxLen ∧ zs.length = cap ∧ (∀ i, i < zs.length → w.cell? (x.add i) = some (.int k (zs.getD i 0))) ∧ ∀ n ∈ zs, (Lit.int k n).wf = true

theorem sentinels {W : World} (h : laidMetH Ybad.prog Rows.lawS4329ACheckedRow.laid W) :
    ∃ (a0 a1 : Addr) (c0 c1 : Array Value) (t0 t1 : TypeId),
      W.var? Ybad.prog nSyn = some #[.iface 93 (.pointer (some a0))] ∧ W.var? Ybad.prog nLone = some #[.iface 93 (.pointer (some a1))] ∧
      a0 ≠ a1 ∧ W.heap[a0.block]? = some (.cells c0 t0 (0, 0)) ∧ W.heap[a1.block]? = some (.cells c1 t1 (0, 0)) := by
  rw [MakeChecks.laidMetH_plain _ _ _ (by kernel_rfl)] at h
  obtain ⟨ps, ⟨g0, t0, cs0, f0, p0, q0, hg0, ht0, hv0, hd0, ⟨g1, t1, cs1, f1, p1, q1, hg1, ht1, hv1, hd1, hq1, e1⟩, e0⟩, hnd, hrows⟩ := h
  obtain rfl := Option.some.inj (gSyn.symm.trans hg0)
  obtain rfl := Option.some.inj (gLone.symm.trans hg1)
  obtain rfl := Option.some.inj (tSyn.symm.trans ht0)
  obtain rfl := Option.some.inj (tLone.symm.trans ht1)
  have hq1' : q1 = [] := hq1
  subst hq1'
  subst e1
  subst e0
  obtain ⟨l0⟩ := cs0
  obtain ⟨l1⟩ := cs1
  have ok0 : ∀ u v, l0 = [.iface u v] → Value.okWide Ybad.prog W .any 0 u v := fun u v e => by
    subst e
    exact (hrows 0 0 (by simp [MemPlace.row])).2 u v (by simpa using World.var?_cell hg0 hv0 0)
  have ok1 : ∀ u v, l1 = [.iface u v] → Value.okWide Ybad.prog W .any 0 u v := fun u v e => by
    subst e
    exact (hrows 1 0 (by simp [MemPlace.row])).2 u v (by simpa using World.var?_cell hg1 hv1 0)
  obtain ⟨a0, s0, rfl, hc0, hs0, hz0, rfl⟩ := errorString_of_trod Ybad.underlying27 row93 Ybad.underlying93 Ybad.underlying120 rfl rfl Ybad.underlying9 cells120 cells9 hd0 ok0
  obtain ⟨a1, s1, rfl, hc1, hs1, hz1, rfl⟩ := errorString_of_trod Ybad.underlying27 row93 Ybad.underlying93 Ybad.underlying120 rfl rfl Ybad.underlying9 cells120 cells9 hd1 ok1
  obtain ⟨c0, t0, hb0⟩ := (hrows a0.block a0.off (by simp [MemPlace.row])).1
  obtain ⟨c1, t1, hb1⟩ := (hrows a1.block a1.off (by simp [MemPlace.row])).1
  refine ⟨a0, a1, c0, c1, t0, t1, hv0, hv1, ?_, hb0, hb1⟩
  rintro rfl
  simp [MemPlace.row] at hnd

theorem sentinel1 {W : World} (h : laidMetH Ybad.prog Rows.lawS4329BModelRow.laid W) :
    ∃ (a0 : Addr), W.var? Ybad.prog nSyn = some #[.iface 93 (.pointer (some a0))] := by
  rw [MakeChecks.laidMetH_plain _ _ _ (by kernel_rfl)] at h
  obtain ⟨ps, ⟨g0, t0, cs0, f0, p0, q0, hg0, ht0, hv0, hd0, hq0, e0⟩, hnd, hrows⟩ := h
  obtain rfl := Option.some.inj (gSyn.symm.trans hg0)
  obtain rfl := Option.some.inj (tSyn.symm.trans ht0)
  have hq0' : q0 = [] := hq0
  subst hq0'
  subst e0
  obtain ⟨l0⟩ := cs0
  have ok0 : ∀ u v, l0 = [.iface u v] → Value.okWide Ybad.prog W .any 0 u v := fun u v e => by
    subst e
    exact (hrows 0 0 (by simp [MemPlace.row])).2 u v (by simpa using World.var?_cell hg0 hv0 0)
  obtain ⟨a0, s0, rfl, hc0, hs0, hz0, rfl⟩ := errorString_of_trod Ybad.underlying27 row93 Ybad.underlying93 Ybad.underlying120 rfl rfl Ybad.underlying9 cells120 cells9 hd0 ok0
  exact ⟨a0, hv0⟩

theorem vars_read2 {H : Type} (enc : TypeId × Value → H) {W : World} {x0 x1 : Value} (h0 : W.var? Ybad.prog nSyn = some #[x0]) (h1 : W.var? Ybad.prog nLone = some #[x1]) (i0 : IsIface x0) (i1 : IsIface x1) (sp : Nat → Bool) :
    DataW.TrodVars enc Ybad.prog W sp Rows.lawS4329ACheckedSpec.vars [tok enc x0, tok enc x1] [.cell 0 0, .cell 1 0] :=
  ⟨0, 27, #[x0], 1, [], [.cell 1 0], gSyn, tSyn, h0, trod_held Ybad.underlying27 i0 0, ⟨1, 27, #[x1], 1, [], [], gLone, tLone, h1, trod_held Ybad.underlying27 i1 0, rfl, rfl⟩, rfl⟩

theorem vars_read1 {H : Type} (enc : TypeId × Value → H) {W : World} {x0 : Value} (h0 : W.var? Ybad.prog nSyn = some #[x0]) (i0 : IsIface x0) (sp : Nat → Bool) :
    DataW.TrodVars enc Ybad.prog W sp Rows.lawS4329BModelSpec.vars [tok enc x0] [.cell 0 0] :=
  ⟨0, 27, #[x0], 1, [], [], gSyn, tSyn, h0, trod_held Ybad.underlying27 i0 0, rfl, rfl⟩

/-- The door's own heap meets the conditions. -/
theorem door_met2 (os : Os) (args : Array Value) : laidMetH Ybad.prog Rows.lawS4329ACheckedRow.laid ((World.doorLaid Ybad.prog 76 os).forCall (fun _ _ => 0) ⟨#[], args, []⟩).memory :=
  laidMetH_of_parts3 (fuel := 8) (laidMet_of_run' 8 (by kernel_rfl) (by kernel_rfl)) (by kernel_rfl) (by kernel_rfl)
theorem door_met1 (os : Os) (args : Array Value) : laidMetH Ybad.prog Rows.lawS4329BModelRow.laid ((World.doorLaid Ybad.prog 76 os).forCall (fun _ _ => 0) ⟨#[], args, []⟩).memory :=
  laidMetH_of_parts3 (fuel := 8) (laidMet_of_run' 8 (by kernel_rfl) (by kernel_rfl)) (by kernel_rfl) (by kernel_rfl)

end Go.Proofs.YbulkckqaDoor
