import Derived.Test.YbulkckrcAt
namespace Go.Proofs.Ybulkckrc
open Go.RowKit
set_option linter.unusedVariables false

/-- The topic in block tb, the subscription in block sb, as report reads and writes them. -/
structure St (w : World) (tb sb : Nat) (next reported needed rd lag : Int) : Prop where
  needed : w.cell? ⟨tb, 128, none⟩ = some (.int .u64 needed)
  lag : w.cell? ⟨tb, 185, none⟩ = some (.int .i64 lag)
  waiting : w.cell? ⟨tb, 316, none⟩ = some (.int .i64 0)
  next : w.cell? ⟨sb, 1, none⟩ = some (.int .u64 next)
  reported : w.cell? ⟨sb, 4, none⟩ = some (.int .u64 reported)
  topic : w.cell? ⟨sb, 6, none⟩ = some (.pointer (some ⟨tb, 0, none⟩))
  rd : w.cell? ⟨sb, 74, none⟩ = some (.int .u64 rd)
  fl : w.frozen? ⟨tb, 185, none⟩ = false
  fr : w.frozen? ⟨sb, 4, none⟩ = false
  fd : w.frozen? ⟨sb, 74, none⟩ = false

theorem St.drewN {w : World} {tb sb : Nat} {a b c d e : Int} (h : St w tb sb a b c d e) (n : Nat) : St (w.drewN n) tb sb a b c d e := ⟨h.1, h.2, h.3, h.4, h.5, h.6, h.7, h.8, h.9, h.10⟩

theorem St.setRep {w : World} {tb sb : Nat} {a b c d e : Int} (h : St w tb sb a b c d e) (hne : tb ≠ sb) (x : Int) : St (w.setCell ⟨sb, 4, none⟩ (.int .u64 x)) tb sb a x c d e :=
  ⟨(World.cell?_setCell_other _ _ _ _ (by simp)).trans h.1, (World.cell?_setCell_other _ _ _ _ (by simp)).trans h.2, (World.cell?_setCell_other _ _ _ _ (by simp)).trans h.3, (World.cell?_setCell_other _ _ _ _ (by simp)).trans h.4, World.cell?_setCell_same _ _ _ h.5, (World.cell?_setCell_other _ _ _ _ (by simp)).trans h.6, (World.cell?_setCell_other _ _ _ _ (by simp)).trans h.7, by simp [h.8], by simp [h.9], by simp [h.10]⟩

theorem St.setRd {w : World} {tb sb : Nat} {a b c d e : Int} (h : St w tb sb a b c d e) (hne : tb ≠ sb) (x : Int) : St (w.setCell ⟨sb, 74, none⟩ (.int .u64 x)) tb sb a b c x e :=
  ⟨(World.cell?_setCell_other _ _ _ _ (by simp)).trans h.1, (World.cell?_setCell_other _ _ _ _ (by simp)).trans h.2, (World.cell?_setCell_other _ _ _ _ (by simp)).trans h.3, (World.cell?_setCell_other _ _ _ _ (by simp)).trans h.4, (World.cell?_setCell_other _ _ _ _ (by simp)).trans h.5, (World.cell?_setCell_other _ _ _ _ (by simp)).trans h.6, World.cell?_setCell_same _ _ _ h.7, by simp [h.8], by simp [h.9], by simp [h.10]⟩

theorem St.setLag {w : World} {tb sb : Nat} {a b c d e : Int} (h : St w tb sb a b c d e) (hne : tb ≠ sb) (x : Int) : St (w.setCell ⟨tb, 185, none⟩ (.int .i64 x)) tb sb a b c d x :=
  ⟨(World.cell?_setCell_other _ _ _ _ (by simp)).trans h.1, World.cell?_setCell_same _ _ _ h.2, (World.cell?_setCell_other _ _ _ _ (by simp)).trans h.3, (World.cell?_setCell_other _ _ _ _ (by simp)).trans h.4, (World.cell?_setCell_other _ _ _ _ (by simp)).trans h.5, (World.cell?_setCell_other _ _ _ _ (by simp)).trans h.6, (World.cell?_setCell_other _ _ _ _ (by simp)).trans h.7, by simp [h.8], by simp [h.9], by simp [h.10]⟩

theorem below_drewN' {B q : Nat} {w w' : World} (h : Below B w w') : Below B w (w'.drewN q) := ⟨h.os, h.tape, h.output, h.size, h.block⟩

set_option maxRecDepth 100000 in
set_option maxHeartbeats 400000 in
theorem report_same (tb sb : Nat) (next reported needed rd lag : Int) (w : World) (h : St w tb sb next reported needed rd lag) (he : (reported == next) = true) :
    Calls Yba.prog 12 #[.pointer (some ⟨sb, 0, none⟩)] w fun e w' => e = .returned (.tuple #[]) ∧ w' = w := by
  obtain ⟨h1, h2, h3, h4, h5, h6, h7, h8, h9, h10⟩ := h
  go_enter Yba.func12, Yba.ntmps12
  go_wp2
  refine bodyPost_ret (results_none rfl _ _ _) rfl ⟨rfl, rfl⟩

/-- what report leaves of lagging -/
def lagOf (next reported needed lag : Int) : Int := if reported < needed ∧ needed ≤ next then wrap64 (lag + -1) else lag

set_option maxRecDepth 100000 in
set_option maxHeartbeats 800000 in
theorem report_go (B tb sb : Nat) (next reported needed rd lag : Int) (w : World) (h : St w tb sb next reported needed rd lag) (he : (reported == next) = false) (hne : tb ≠ sb) (hB1 : B ≤ tb) (hB2 : B ≤ sb) :
    Calls Yba.prog 12 #[.pointer (some ⟨sb, 0, none⟩)] w fun e w' => e = .returned (.tuple #[]) ∧ Below B w w' ∧ St w' tb sb next next needed next (lagOf next reported needed lag) := by
  have HST : Hid (Calls Yba.prog 10 #[.pointer (some ⟨sb, 74, none⟩), .int .u64 next] (w.setCell ⟨sb, 4, none⟩ (.int .u64 next)).drew fun e w' => e = .returned (.tuple #[]) ∧ w' = (w.setCell ⟨sb, 4, none⟩ (.int .u64 next)).drew.setCell ⟨sb, 74, none⟩ (.int .u64 next)) :=
    u64_store sb 74 (.int .u64 rd) next _ ((h.setRep hne next).drewN 1).rd ((h.setRep hne next).drewN 1).fd
  have HH : Hid (St ((w.setCell ⟨sb, 4, none⟩ (.int .u64 next)).setCell ⟨sb, 74, none⟩ (.int .u64 next)).drew tb sb next next needed next lag ∧ Below B w ((w.setCell ⟨sb, 4, none⟩ (.int .u64 next)).setCell ⟨sb, 74, none⟩ (.int .u64 next)).drew) :=
    ⟨((h.setRep hne next).setRd hne next).drewN 1, (((Below.refl B w).setCell hB2 _).setCell hB2 _).drew⟩
  obtain ⟨h1, h2, h3, h4, h5, h6, h7, h8, h9, h10⟩ := h
  go_enter Yba.func12, Yba.ntmps12
  go_wp2
  go_region_with (go_at_call 10; refine HST.out.mono ?_; rintro e w1 ⟨rfl, rfl⟩)
  generalize ((w.setCell ⟨sb, 4, none⟩ (.int .u64 next)).setCell ⟨sb, 74, none⟩ (.int .u64 next)).drew = W1 at HH ⊢
  clear h1 h2 h3 h4 h5 h6 h7 h8 h9 h10 HST
  obtain ⟨h1, h2, h3, h4, h5, h6, h7, h8, h9, h10⟩ := HH.out.1
  go_wp2_with fail
  refine (u64_load _ _ _ _ h1).mono ?_
  rintro e w1 ⟨rfl, rfl⟩
  by_cases ha : reported < needed
  · by_cases hb : needed ≤ next
    · by_cases hc : wrap64 (lag + -1) ≤ 0
      · go_wp2_with fail
        refine (i64_add _ _ _ _ _ h2 h8).mono ?_
        rintro e w1 ⟨rfl, rfl⟩
        go_wp2_with fail
        refine (wake_none _ _ _ (HH.out.1.setLag hne _).waiting).mono ?_
        rintro e w1 ⟨rfl, rfl⟩
        go_wp2
        go_end0
        refine ⟨rfl, HH.out.2.setCell hB1 _, ?_⟩
        rw [lagOf, if_pos ⟨ha, hb⟩]
        exact HH.out.1.setLag hne _
      · go_wp2_with fail
        refine (i64_add _ _ _ _ _ h2 h8).mono ?_
        rintro e w1 ⟨rfl, rfl⟩
        go_wp2
        go_end0
        refine ⟨rfl, HH.out.2.setCell hB1 _, ?_⟩
        rw [lagOf, if_pos ⟨ha, hb⟩]
        exact HH.out.1.setLag hne _
    · have hb' : decide (needed ≤ next) = false := decide_eq_false hb
      go_wp2
      go_end0
      refine ⟨rfl, HH.out.2, ?_⟩
      rw [lagOf, if_neg (by omega)]
      exact HH.out.1
  · have ha' : decide (reported < needed) = false := decide_eq_false ha
    go_wp2
    go_end0
    refine ⟨rfl, HH.out.2, ?_⟩
    rw [lagOf, if_neg (by omega)]
    exact HH.out.1

end Go.Proofs.Ybulkckrc
