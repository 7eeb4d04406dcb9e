import Derived.Test.YbulkckvkDoorCx
namespace Go.Proofs.YbulkckvkDoor
open Go.RowKit Go.Conc
set_option linter.unusedVariables false

theorem closed_env {w : World} {kb mk nb nv cb cl : Nat} {K m calls dones errs mu : Int} {clo : Bool} {chg err fin gv : Value} (h : Env w kb mk nb nv cb cl K m calls dones errs mu clo chg err fin gv) :
    Calls Ybad.prog 5 #[] w fun e w' => ∃ c, e = .returned (.chan (some c)) ∧ cl < c ∧ Env w' kb mk nb nv cb cl K m calls dones errs mu clo chg err fin gv ∧ w'.heap[c]? = some (.chan 0 #[] true 0 0 false) ∧ Below (cl + 1) w w' := by
  refine (closed_chan w).mono ?_
  rintro e w' ⟨rfl, hb, hs, hc⟩
  have hb' : Below (cl + 1) w w' := hb.mono h.l6
  exact ⟨_, rfl, h.l6, h.keep hb', hc, hb'⟩

set_option maxRecDepth 100000 in
set_option maxHeartbeats 1600000 in
/-- a turn before the last: 'changed' is a shut channel, the answer false -/
theorem ready_early {w : World} {kb mk nb nv cb cl : Nat} {K m calls dones errs mu : Int} {clo : Bool} {chg err fin gv : Value} (h : Env w kb mk nb nv cb cl K m calls dones errs mu clo chg err fin gv) (he : IntKind.wrap .i64 (calls + 1) = calls + 1) (hK : calls + 1 ≤ K) :
    Calls Ybad.prog 6 #[.pointer (some ⟨cl, 0, none⟩), .pointer (some ⟨kb, 0, none⟩), .pointer (some ⟨nv, 0, none⟩), .pointer (some ⟨mk, 0, none⟩)] w fun e w' => e = .returned (.bool false) ∧ ∃ c, cl < c ∧ Env w' kb mk nb nv cb cl K m (calls + 1) dones errs mu clo (.chan (some c)) err fin gv ∧ w'.heap[c]? = some (.chan 0 #[] true 0 0 false) ∧ Below kb w w' := by
  have hcl := h.hcl
  have f6 := h.f6
  have h1 := h.setCalls (calls + 1)
  have hb1 : Below kb w (w.setCell ⟨cl, 0, none⟩ (.int .i64 (calls + 1))) := (Below.refl kb w).setCell (by have := h.l1; have := h.l2; have := h.l3; have := h.l4; have := h.l5; show kb ≤ cl; omega) _
  have hd : decide (calls + 1 ≤ K) = true := by simpa using hK
  have d1 := h1.hcl
  have d2 := h1.hk
  go_enter Ybad.func6, Ybad.ntmps6
  go_wp2
  generalize w.setCell ⟨cl, 0, none⟩ (.int .i64 (calls + 1)) = w1 at h1 hb1 d1 d2 ⊢
  have HB1 : Hid (Below kb w w1) := hb1
  clear hb1
  have HC : Hid (Calls Ybad.prog 5 #[] w1.drew fun e w' => ∃ c, e = .returned (.chan (some c)) ∧ cl < c ∧ Env w' kb mk nb nv cb cl K m (calls + 1) dones errs mu clo chg err fin gv ∧ w'.heap[c]? = some (.chan 0 #[] true 0 0 false) ∧ Below (cl + 1) w1.drew w') := closed_env (h1.drewN 1)
  have d3 := h1.hn
  go_region_with (go_at_call 5; refine HC.out.mono ?_; rintro e w2 ⟨c, rfl, hc, E2, hh, hb⟩; have g1 := E2.hn; have g2 := E2.hchg; have g3 := E2.f2)
  all_goals (go_wp2; go_ret)
  all_goals exact ⟨rfl, c, hc, E2.setChg _, (Below.heap_setCell _ _ _ _ (by have := E2.l3; have := E2.l4; have := E2.l5; show c ≠ nb; omega)).trans hh, ((HB1.out.trans (Below.refl kb w1).drew).trans (hb.mono (by have := E2.l1; have := E2.l2; have := E2.l3; have := E2.l4; have := E2.l5; omega))).setCell (by have := E2.l1; have := E2.l2; show kb ≤ nb; omega) _⟩

set_option maxRecDepth 100000 in
set_option maxHeartbeats 1600000 in
theorem ready_zero {w : World} {kb mk nb nv cb cl : Nat} {K dones errs mu : Int} {clo : Bool} {chg err fin gv : Value} (h : Env w kb mk nb nv cb cl K 0 K dones errs mu clo chg err fin gv) (he : IntKind.wrap .i64 (K + 1) = K + 1) :
    Calls Ybad.prog 6 #[.pointer (some ⟨cl, 0, none⟩), .pointer (some ⟨kb, 0, none⟩), .pointer (some ⟨nv, 0, none⟩), .pointer (some ⟨mk, 0, none⟩)] w fun e w' => e = .returned (.bool true) ∧ w' = w.setCell ⟨cl, 0, none⟩ (.int .i64 (K + 1)) := by
  have hcl := h.hcl
  have f6 := h.f6
  have h1 := h.setCalls (K + 1)
  have hb1 : Below kb w (w.setCell ⟨cl, 0, none⟩ (.int .i64 (K + 1))) := (Below.refl kb w).setCell (by have := h.l1; have := h.l2; have := h.l3; have := h.l4; have := h.l5; show kb ≤ cl; omega) _
  have hd : decide (K + 1 ≤ K) = false := by simp; omega
  have d1 := h1.hcl
  have d2 := h1.hk
  have d3 := h1.hm
  go_enter Ybad.func6, Ybad.ntmps6
  go_wp2
  go_ret
  exact ⟨rfl, rfl⟩

set_option maxRecDepth 100000 in
set_option maxHeartbeats 1600000 in
theorem ready_one {w : World} {kb mk nb nv cb cl : Nat} {K dones errs mu : Int} {clo : Bool} {chg err fin gv : Value} (h : Env w kb mk nb nv cb cl K 1 K dones errs mu clo chg err fin gv) (he : IntKind.wrap .i64 (K + 1) = K + 1) :
    Calls Ybad.prog 6 #[.pointer (some ⟨cl, 0, none⟩), .pointer (some ⟨kb, 0, none⟩), .pointer (some ⟨nv, 0, none⟩), .pointer (some ⟨mk, 0, none⟩)] w fun e w' => e = .returned (.bool false) ∧ ∃ c, cl < c ∧ Env w' kb mk nb nv cb cl K 1 (K + 1) dones errs mu clo (.chan (some c)) err fin gv ∧ w'.heap[c]? = some (.chan 0 #[] false 0 0 false) ∧ Below kb w w' := by
  have hcl := h.hcl
  have f6 := h.f6
  have h1 := h.setCalls (K + 1)
  have hb1 : Below kb w (w.setCell ⟨cl, 0, none⟩ (.int .i64 (K + 1))) := (Below.refl kb w).setCell (by have := h.l1; have := h.l2; have := h.l3; have := h.l4; have := h.l5; show kb ≤ cl; omega) _
  have hd : decide (K + 1 ≤ K) = false := by simp; omega
  have d1 := h1.hcl
  have d2 := h1.hk
  have d3 := h1.hm
  go_enter Ybad.func6, Ybad.ntmps6
  go_wp2
  generalize w.setCell ⟨cl, 0, none⟩ (.int .i64 (K + 1)) = w1 at h1 hb1 d1 d2 d3 ⊢
  have HB1 : Hid (Below kb w w1) := hb1
  clear hb1
  have HE : Hid (Env (w1.alloc (.chan 0 #[] false 0 0 false)) kb mk nb nv cb cl K 1 (K + 1) dones errs mu clo chg err fin gv) := h1.keep ((Below.refl _ w1).alloc (by have := h1.l6; show cl + 1 ≤ w1.heap.size; omega) _)
  have d4 := h1.hn
  have d5 := HE.out.hn
  have d6 := HE.out.hchg
  have d7 := HE.out.f2
  have hmc := mk0
  go_region
  go_wp2
  go_ret
  exact ⟨rfl, w1.heap.size, h1.l6, (HE.out.setChg _).drewN 1, (Below.heap_setCell _ _ _ _ (by have := h1.l3; have := h1.l4; have := h1.l5; have := h1.l6; show w1.heap.size ≠ nb; omega)).trans (heap_alloc_new w1 _), ((HB1.out.alloc (by have := h1.l1; have := h1.l2; have := h1.l3; have := h1.l4; have := h1.l5; have := h1.l6; omega) _).setCell (by have := h1.l1; have := h1.l2; show kb ≤ nb; omega) _).drew⟩

set_option maxRecDepth 100000 in
set_option maxHeartbeats 1600000 in
theorem ready_two {w : World} {kb mk nb nv cb cl : Nat} {K dones errs mu : Int} {clo : Bool} {chg err fin gv : Value} (h : Env w kb mk nb nv cb cl K 2 K dones errs mu clo chg err fin gv) (he : IntKind.wrap .i64 (K + 1) = K + 1) :
    Calls Ybad.prog 6 #[.pointer (some ⟨cl, 0, none⟩), .pointer (some ⟨kb, 0, none⟩), .pointer (some ⟨nv, 0, none⟩), .pointer (some ⟨mk, 0, none⟩)] w fun e w' => e = .returned (.bool false) ∧ ∃ c, cl < c ∧ Env w' kb mk nb nv cb cl K 2 (K + 1) dones errs mu true (.chan (some c)) err fin gv ∧ w'.heap[c]? = some (.chan 0 #[] true 0 0 false) ∧ Below kb w w' := by
  have hcl := h.hcl
  have f6 := h.f6
  have h1 := h.setCalls (K + 1)
  have hb1 : Below kb w (w.setCell ⟨cl, 0, none⟩ (.int .i64 (K + 1))) := (Below.refl kb w).setCell (by have := h.l1; have := h.l2; have := h.l3; have := h.l4; have := h.l5; show kb ≤ cl; omega) _
  have hd : decide (K + 1 ≤ K) = false := by simp; omega
  have d1 := h1.hcl
  have d2 := h1.hk
  have d3 := h1.hm
  have d4 := h1.hn
  have d5 := h1.hclo
  have d6 := h1.f3
  have h2 := h1.setClo true
  have hb2 := hb1.setCell (p := ⟨nb, 62, none⟩) (by have := h.l1; have := h.l2; show kb ≤ nb; omega) (.bool true)
  go_enter Ybad.func6, Ybad.ntmps6
  go_wp2
  generalize (w.setCell ⟨cl, 0, none⟩ (.int .i64 (K + 1))).setCell ⟨nb, 62, none⟩ (.bool true) = w1 at h2 hb2 ⊢
  clear d1 d2 d3 d4 d5 d6 hb1 h1
  have HB1 : Hid (Below kb w w1) := hb2
  clear hb2
  have HC : Hid (Calls Ybad.prog 5 #[] w1.drew fun e w' => ∃ c, e = .returned (.chan (some c)) ∧ cl < c ∧ Env w' kb mk nb nv cb cl K 2 (K + 1) dones errs mu true chg err fin gv ∧ w'.heap[c]? = some (.chan 0 #[] true 0 0 false) ∧ Below (cl + 1) w1.drew w') := closed_env (h2.drewN 1)
  have d3 := h2.hn
  go_region_with (go_at_call 5; refine HC.out.mono ?_; rintro e w2 ⟨c, rfl, hc, E2, hh, hb⟩; have g1 := E2.hn; have g2 := E2.hchg; have g3 := E2.f2)
  all_goals (go_wp2; go_ret)
  all_goals exact ⟨rfl, c, hc, E2.setChg _, (Below.heap_setCell _ _ _ _ (by have := E2.l3; have := E2.l4; have := E2.l5; show c ≠ nb; omega)).trans hh, ((HB1.out.trans (Below.refl kb w1).drew).trans (hb.mono (by have := E2.l1; have := E2.l2; have := E2.l3; have := E2.l4; have := E2.l5; omega))).setCell (by have := E2.l1; have := E2.l2; show kb ≤ nb; omega) _⟩
end Go.Proofs.YbulkckvkDoor
