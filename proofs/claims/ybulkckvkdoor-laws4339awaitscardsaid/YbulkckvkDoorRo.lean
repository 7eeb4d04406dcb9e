import Derived.Test.YbulkckvkDoorSl
import Derived.Test.YbulkckvkDoorLk
namespace Go.Proofs.YbulkckvkDoor
open Go.RowKit Go.Conc
set_option linter.unusedVariables false

/-- a loop's body, of a function whose body is an assignment and a loop -/
def inner : Option Code → Code
  | some (.seq _ (.block _ (.loop c))) => c
  | _ => .skip
/-- the three parameters stand; the other slots hold whatever -/
def Sh (kb mk nb nv cb cl : Nat) (a : Act) : Prop := ∃ u3 u4 u5 u6 u7 u8 u9 u10 u11 u12 u13 u14 u15 u16 u17 u18 u19 u20 u21 u22 u23 u24 u25 u26 u27 u28 u29 u30 u31 u32 u33 u34 u35 u36 u37 u38 u39 u40 u41 u42 u43 u44 u45 : Value, a = { tmps := #[.pointer (some ⟨nb, 0, none⟩), .iface 71 (.pointer (some ⟨cb, 0, none⟩)), .func (.func 6) #[] #[.pointer (some ⟨cl, 0, none⟩), .pointer (some ⟨kb, 0, none⟩), .pointer (some ⟨nv, 0, none⟩), .pointer (some ⟨mk, 0, none⟩)], u3, u4, u5, u6, u7, u8, u9, u10, u11, u12, u13, u14, u15, u16, u17, u18, u19, u20, u21, u22, u23, u24, u25, u26, u27, u28, u29, u30, u31, u32, u33, u34, u35, u36, u37, u38, u39, u40, u41, u42, u43, u44, u45], defers := [] }

set_option maxRecDepth 100000 in
set_option maxHeartbeats 1600000 in
/-- a turn in which 'ready' says no and leaves a shut channel: the loop goes on -/
theorem round_b1 {w : World} {kb mk nb nv cb cl : Nat} {K m calls dones errs : Int} {chg err gv : Value} {fin : Option Nat} {calls' : Int} {clo' : Bool} {Q : Exit → Act → World → Prop} {a : Act} (hs : Sh kb mk nb nv cb cl a)
    (h : Env w kb mk nb nv cb cl K m calls dones errs 0 false chg err (.chan fin) gv)
    (hR : ∀ w1, Env w1 kb mk nb nv cb cl K m calls dones errs 1 false chg err (.chan fin) gv → Calls Ybad.prog 6 #[.pointer (some ⟨cl, 0, none⟩), .pointer (some ⟨kb, 0, none⟩), .pointer (some ⟨nv, 0, none⟩), .pointer (some ⟨mk, 0, none⟩)] w1 fun e w' => e = .returned (.bool false) ∧ ∃ c, cl < c ∧ Env w' kb mk nb nv cb cl K m calls' dones errs 1 clo' (.chan (some c)) err (.chan fin) gv ∧ w'.heap[c]? = some (.chan 0 #[] true 0 0 false) ∧ Below kb w1 w')
    (he : IntKind.wrap .i64 (dones + 1) = dones + 1) (hfin : K < dones + 1 → fin = none)
    (hQ : ∀ a' w', Sh kb mk nb nv cb cl a' → (∃ c, Env w' kb mk nb nv cb cl K m calls' (dones + 1) errs 0 clo' (.chan (some c)) err (.chan fin) gv) → Below kb w w' → Q .normal a' w') :
    wpN Ybad.prog (inner Ybad.f7.body) Q a w := by
  obtain ⟨u3, u4, u5, u6, u7, u8, u9, u10, u11, u12, u13, u14, u15, u16, u17, u18, u19, u20, u21, u22, u23, u24, u25, u26, u27, u28, u29, u30, u31, u32, u33, u34, u35, u36, u37, u38, u39, u40, u41, u42, u43, u44, u45, rfl⟩ := hs
  have hc1 := h.hmu
  have hf1 := h.f1
  have h1 := h.setMu 1
  have HL : Hid (Calls Ybad.prog 8 #[.pointer (some ⟨nb, 59, none⟩)] w fun e w' => e = .returned (.tuple #[]) ∧ w' = w.setCell ⟨nb, 59, none⟩ (.int .i32 1)) := Go.MuLone.lock_free muLib _ w hc1 hf1
  have hm1 : ∀ w, (method 333 71 (.pointer (some ⟨cb, 0, none⟩)) "Done").run Ybad.prog w = .ok (50, .pointer (some ⟨cb, 0, none⟩)) w := fun _ => by kernel_rfl
  unfold Ybad.f7
  dsimp only [inner]
  refine wpN_block (wpN_seq fun K1 hK1 => ?_)
  go_wp2_with fail
  refine HL.out.mono ?_
  rintro e w1 ⟨rfl, hw1⟩
  rw [← hw1] at h1
  have HB1 : Hid (Below kb w w1) := by
    rw [hw1]
    exact (Below.refl kb w).setCell (by have := h.l1; have := h.l2; show kb ≤ nb; omega) _
  have HR : Hid (Calls Ybad.prog 6 #[.pointer (some ⟨cl, 0, none⟩), .pointer (some ⟨kb, 0, none⟩), .pointer (some ⟨nv, 0, none⟩), .pointer (some ⟨mk, 0, none⟩)] w1 fun e w' => e = .returned (.bool false) ∧ ∃ c, cl < c ∧ Env w' kb mk nb nv cb cl K m calls' dones errs 1 clo' (.chan (some c)) err (.chan fin) gv ∧ w'.heap[c]? = some (.chan 0 #[] true 0 0 false) ∧ Below kb w1 w') := hR w1 h1
  clear hw1 HL hc1 hf1 hR h
  have hclo := h1.hclo
  go_wp2_with fail
  refine wpN_seq fun K1 hK1 => ?_
  go_wp2_with fail
  refine wpN_seq fun K1 hK1 => ?_
  go_wp2_with fail
  refine HR.out.mono ?_
  rintro e w2 ⟨rfl, c, hcc, h2, hch, hb2⟩
  have HB2 : Hid (Below kb w w2) := HB1.out.trans hb2
  clear HB1 HR hclo h1 hb2
  go_wp2_with fail
  have hchg := h2.hchg
  have hc1 := h2.hmu
  have hf1 := h2.f1
  have h3 := h2.setMu 0
  have HL : Hid (Calls Ybad.prog 9 #[.pointer (some ⟨nb, 59, none⟩)] w2 fun e w' => e = .returned (.tuple #[]) ∧ w' = w2.setCell ⟨nb, 59, none⟩ (.int .i32 0)) := Go.MuLone.unlock_held muLib _ w2 hc1 hf1
  refine wpN_seq fun K1 hK1 => ?_
  go_wp2_with fail
  refine wpN_seq fun K1 hK1 => ?_
  go_wp2_with fail
  refine HL.out.mono ?_
  rintro e w3 ⟨rfl, hw3⟩
  rw [← hw3] at h3
  have HB3 : Hid (Below kb w w3) := by
    rw [hw3]
    exact HB2.out.setCell (by have := h3.l1; have := h3.l2; show kb ≤ nb; omega) _
  have HH3 : Hid (w3.heap[c]? = some (.chan 0 #[] true 0 0 false)) := by
    rw [hw3]
    exact (Below.heap_setCell _ _ _ _ (by have := h3.l3; have := h3.l4; have := h3.l5; show c ≠ nb; omega)).trans hch
  have HD : Hid (Calls Ybad.prog 50 #[.pointer (some ⟨cb, 0, none⟩)] w3 fun e w' => e = .returned (.chan (if K < dones + 1 then fin else none)) ∧ ∃ q, w' = (w3.setCell ⟨cb, 1, none⟩ (.int .i64 (dones + 1))).drewN q) := done_calls h3 he
  clear hw3 HB2 hch h2 HL hc1 hf1 hchg
  go_wp2_with fail
  refine wpN_seq fun K1 hK1 => ?_
  go_wp2_with fail
  refine wpN_seq fun K1 hK1 => ?_
  go_wp2_with fail
  refine HD.out.mono ?_
  rintro e w4 ⟨rfl, q, hw4⟩
  have h4 := (h3.setDones (dones + 1)).drewN q
  rw [← hw4] at h4
  have HB4 : Hid (Below kb w w4) := by
    rw [hw4]
    exact below_drewN (HB3.out.setCell (by have := h3.l1; have := h3.l2; have := h3.l3; have := h3.l4; show kb ≤ cb; omega) _) q
  have HH4 : Hid (w4.heap[c]? = some (.chan 0 #[] true 0 0 false)) := by
    rw [hw4]
    exact (Below.heap_setCell _ _ _ _ (by have := h3.l5; show c ≠ cb; omega)).trans HH3.out
  have hnn : (if K < dones + 1 then fin else none) = none := by
    split
    · exact hfin (by assumption)
    · rfl
  rw [hnn]
  clear hw4 HB3 HH3 HD h3 hnn
  go_wp2_with fail
  refine wpN_sel (k := 0) (cases := #[rc (some c), rc none]) (o := selO _) (z := .agg #[]) rfl (exec_sel _ _ _ _ rfl rfl _) rfl (only0 _ _) HH4.out (res0 _ _) fun K1 hK1 => ?_
  go_wp2_with fail
  refine wpN_of_wp ?_
  go_wp2_with fail
  exact hQ _ _ ⟨_, _, _, _, _, _, _, _, _, _, _, _, _, _, _, _, _, _, _, _, _, _, _, _, _, _, _, _, _, _, _, _, _, _, _, _, _, _, _, _, _, _, _, rfl⟩ ⟨c, h4⟩ HB4.out

set_option maxRecDepth 100000 in
set_option maxHeartbeats 1600000 in
/-- a turn in which 'ready' says no and leaves an open channel, and the context is done: its error -/
theorem round_b2 {w : World} {kb mk nb nv cb cl : Nat} {K m calls dones errs : Int} {chg err gv : Value} {f : Nat} {calls' : Int} {clo' : Bool} {Q : Exit → Act → World → Prop} {a : Act} (hs : Sh kb mk nb nv cb cl a)
    (h : Env w kb mk nb nv cb cl K m calls dones errs 0 false chg err (.chan (some f)) gv)
    (hR : ∀ w1, Env w1 kb mk nb nv cb cl K m calls dones errs 1 false chg err (.chan (some f)) gv → Calls Ybad.prog 6 #[.pointer (some ⟨cl, 0, none⟩), .pointer (some ⟨kb, 0, none⟩), .pointer (some ⟨nv, 0, none⟩), .pointer (some ⟨mk, 0, none⟩)] w1 fun e w' => e = .returned (.bool false) ∧ ∃ c, cl < c ∧ Env w' kb mk nb nv cb cl K m calls' dones errs 1 clo' (.chan (some c)) err (.chan (some f)) gv ∧ w'.heap[c]? = some (.chan 0 #[] false 0 0 false) ∧ Below kb w1 w')
    (he : IntKind.wrap .i64 (dones + 1) = dones + 1) (hee : IntKind.wrap .i64 (errs + 1) = errs + 1) (hfin : K < dones + 1)
    (hQ : ∀ a' w', a'.defers = [] → a'.tmps.getD 6 undef = err → (∃ c, Env w' kb mk nb nv cb cl K m calls' (dones + 1) (errs + 1) 0 clo' (.chan (some c)) err (.chan (some f)) gv) → Below kb w w' → Q .ret a' w') :
    wpN Ybad.prog (inner Ybad.f7.body) Q a w := by
  obtain ⟨u3, u4, u5, u6, u7, u8, u9, u10, u11, u12, u13, u14, u15, u16, u17, u18, u19, u20, u21, u22, u23, u24, u25, u26, u27, u28, u29, u30, u31, u32, u33, u34, u35, u36, u37, u38, u39, u40, u41, u42, u43, u44, u45, rfl⟩ := hs
  have hc1 := h.hmu
  have hf1 := h.f1
  have h1 := h.setMu 1
  have HL : Hid (Calls Ybad.prog 8 #[.pointer (some ⟨nb, 59, none⟩)] w fun e w' => e = .returned (.tuple #[]) ∧ w' = w.setCell ⟨nb, 59, none⟩ (.int .i32 1)) := Go.MuLone.lock_free muLib _ w hc1 hf1
  have hm1 : ∀ w, (method 333 71 (.pointer (some ⟨cb, 0, none⟩)) "Done").run Ybad.prog w = .ok (50, .pointer (some ⟨cb, 0, none⟩)) w := fun _ => by kernel_rfl
  have hm2 : ∀ w, (method 333 71 (.pointer (some ⟨cb, 0, none⟩)) "Err").run Ybad.prog w = .ok (51, .pointer (some ⟨cb, 0, none⟩)) w := fun _ => by kernel_rfl
  unfold Ybad.f7
  dsimp only [inner]
  refine wpN_block (wpN_seq fun K1 hK1 => ?_)
  go_wp2_with fail
  refine HL.out.mono ?_
  rintro e w1 ⟨rfl, hw1⟩
  rw [← hw1] at h1
  have HB1 : Hid (Below kb w w1) := by
    rw [hw1]
    exact (Below.refl kb w).setCell (by have := h.l1; have := h.l2; show kb ≤ nb; omega) _
  have HR : Hid (Calls Ybad.prog 6 #[.pointer (some ⟨cl, 0, none⟩), .pointer (some ⟨kb, 0, none⟩), .pointer (some ⟨nv, 0, none⟩), .pointer (some ⟨mk, 0, none⟩)] w1 fun e w' => e = .returned (.bool false) ∧ ∃ c, cl < c ∧ Env w' kb mk nb nv cb cl K m calls' dones errs 1 clo' (.chan (some c)) err (.chan (some f)) gv ∧ w'.heap[c]? = some (.chan 0 #[] false 0 0 false) ∧ Below kb w1 w') := hR w1 h1
  clear hw1 HL hc1 hf1 hR h
  have hclo := h1.hclo
  go_wp2_with fail
  refine wpN_seq fun K1 hK1 => ?_
  go_wp2_with fail
  refine wpN_seq fun K1 hK1 => ?_
  go_wp2_with fail
  refine HR.out.mono ?_
  rintro e w2 ⟨rfl, c, hcc, h2, hch, hb2⟩
  have HB2 : Hid (Below kb w w2) := HB1.out.trans hb2
  clear HB1 HR hclo h1 hb2
  go_wp2_with fail
  have hchg := h2.hchg
  have hc1 := h2.hmu
  have hf1 := h2.f1
  have h3 := h2.setMu 0
  have HL : Hid (Calls Ybad.prog 9 #[.pointer (some ⟨nb, 59, none⟩)] w2 fun e w' => e = .returned (.tuple #[]) ∧ w' = w2.setCell ⟨nb, 59, none⟩ (.int .i32 0)) := Go.MuLone.unlock_held muLib _ w2 hc1 hf1
  refine wpN_seq fun K1 hK1 => ?_
  go_wp2_with fail
  refine wpN_seq fun K1 hK1 => ?_
  go_wp2_with fail
  refine HL.out.mono ?_
  rintro e w3 ⟨rfl, hw3⟩
  rw [← hw3] at h3
  have HB3 : Hid (Below kb w w3) := by
    rw [hw3]
    exact HB2.out.setCell (by have := h3.l1; have := h3.l2; show kb ≤ nb; omega) _
  have HH3 : Hid (w3.heap[c]? = some (.chan 0 #[] false 0 0 false)) := by
    rw [hw3]
    exact (Below.heap_setCell _ _ _ _ (by have := h3.l3; have := h3.l4; have := h3.l5; show c ≠ nb; omega)).trans hch
  have HD : Hid (Calls Ybad.prog 50 #[.pointer (some ⟨cb, 0, none⟩)] w3 fun e w' => e = .returned (.chan (if K < dones + 1 then some f else none)) ∧ ∃ q, w' = (w3.setCell ⟨cb, 1, none⟩ (.int .i64 (dones + 1))).drewN q) := done_calls h3 he
  clear hw3 HB2 hch h2 HL hc1 hf1 hchg
  go_wp2_with fail
  refine wpN_seq fun K1 hK1 => ?_
  go_wp2_with fail
  refine wpN_seq fun K1 hK1 => ?_
  go_wp2_with fail
  refine HD.out.mono ?_
  rintro e w4 ⟨rfl, q, hw4⟩
  have h4 := (h3.setDones (dones + 1)).drewN q
  rw [← hw4] at h4
  have HB4 : Hid (Below kb w w4) := by
    rw [hw4]
    exact below_drewN (HB3.out.setCell (by have := h3.l1; have := h3.l2; have := h3.l3; have := h3.l4; show kb ≤ cb; omega) _) q
  have HH4 : Hid (w4.heap[c]? = some (.chan 0 #[] false 0 0 false)) := by
    rw [hw4]
    exact (Below.heap_setCell _ _ _ _ (by have := h3.l5; show c ≠ cb; omega)).trans HH3.out
  have hnn : (if K < dones + 1 then some f else none) = some f := if_pos hfin
  rw [hnn]
  have HF : Hid (w4.heap[f]? = some (.chan 0 #[] true 0 0 false)) := (h4.hfin f rfl).2.2
  have h5 := h4.setErrs (errs + 1)
  have HE : Hid (Calls Ybad.prog 51 #[.pointer (some ⟨cb, 0, none⟩)] w4 fun e w' => e = .returned err ∧ w' = w4.setCell ⟨cb, 2, none⟩ (.int .i64 (errs + 1))) := err_calls h4 hee
  have HB5 : Hid (Below kb w (w4.setCell ⟨cb, 2, none⟩ (.int .i64 (errs + 1)))) := HB4.out.setCell (by have := h4.l1; have := h4.l2; have := h4.l3; have := h4.l4; show kb ≤ cb; omega) _
  clear hw4 HB3 HH3 HD h3 hnn h4 HB4
  go_wp2_with fail
  refine wpN_sel (k := 1) (cases := #[rc (some c), rc (some f)]) (o := selO _) (z := .agg #[]) rfl (exec_sel _ _ _ _ rfl rfl _) rfl (only1 HH4.out _) HF.out (res1 _ _) fun K1 hK1 => ?_
  go_wp2_with fail
  refine wpN_of_wp ?_
  go_wp2_with fail
  refine HE.out.mono ?_
  rintro e w5 ⟨rfl, rfl⟩
  go_wp2_with fail
  exact hQ _ _ rfl rfl ⟨c, h5⟩ HB5.out

set_option maxRecDepth 100000 in
set_option maxHeartbeats 1600000 in
/-- the node is closed: 'ErrClosed' -/
theorem round_a {w : World} {kb mk nb nv cb cl : Nat} {K m calls dones errs : Int} {chg err fin gv : Value} {Q : Exit → Act → World → Prop} {a : Act} (hs : Sh kb mk nb nv cb cl a)
    (h : Env w kb mk nb nv cb cl K m calls dones errs 0 true chg err fin gv)
    (hQ : ∀ a' w', a'.defers = [] → a'.tmps.getD 6 undef = gv → Env w' kb mk nb nv cb cl K m calls dones errs 0 true chg err fin gv → Below kb w w' → Q .ret a' w') :
    wpN Ybad.prog (inner Ybad.f7.body) Q a w := by
  obtain ⟨u3, u4, u5, u6, u7, u8, u9, u10, u11, u12, u13, u14, u15, u16, u17, u18, u19, u20, u21, u22, u23, u24, u25, u26, u27, u28, u29, u30, u31, u32, u33, u34, u35, u36, u37, u38, u39, u40, u41, u42, u43, u44, u45, rfl⟩ := hs
  have hc1 := h.hmu
  have hf1 := h.f1
  have h1 := h.setMu 1
  have HL : Hid (Calls Ybad.prog 8 #[.pointer (some ⟨nb, 59, none⟩)] w fun e w' => e = .returned (.tuple #[]) ∧ w' = w.setCell ⟨nb, 59, none⟩ (.int .i32 1)) := Go.MuLone.lock_free muLib _ w hc1 hf1
  unfold Ybad.f7
  dsimp only [inner]
  refine wpN_block (wpN_seq fun K1 hK1 => ?_)
  go_wp2_with fail
  refine HL.out.mono ?_
  rintro e w1 ⟨rfl, hw1⟩
  rw [← hw1] at h1
  have HB1 : Hid (Below kb w w1) := by
    rw [hw1]
    exact (Below.refl kb w).setCell (by have := h.l1; have := h.l2; show kb ≤ nb; omega) _
  clear hw1 HL hc1 hf1 h
  have hclo := h1.hclo
  go_wp2_with fail
  refine wpN_seq fun K1 hK1 => ?_
  go_wp2_with fail
  refine wpN_seq fun K1 hK1 => ?_
  go_wp2_with fail
  have hchg := h1.hchg
  have hc1 := h1.hmu
  have hf1 := h1.f1
  have h3 := h1.setMu 0
  have HL : Hid (Calls Ybad.prog 9 #[.pointer (some ⟨nb, 59, none⟩)] w1 fun e w' => e = .returned (.tuple #[]) ∧ w' = w1.setCell ⟨nb, 59, none⟩ (.int .i32 0)) := Go.MuLone.unlock_held muLib _ w1 hc1 hf1
  refine wpN_seq fun K1 hK1 => ?_
  go_wp2_with fail
  refine wpN_seq fun K1 hK1 => ?_
  go_wp2_with fail
  refine HL.out.mono ?_
  rintro e w3 ⟨rfl, hw3⟩
  rw [← hw3] at h3
  have HB3 : Hid (Below kb w w3) := by
    rw [hw3]
    exact HB1.out.setCell (by have := h3.l1; have := h3.l2; show kb ≤ nb; omega) _
  have hg := h3.hg
  clear hw3 HB1 h1 HL hc1 hf1 hchg
  go_wp2_with fail
  refine wpN_seq fun K1 hK1 => ?_
  go_wp2_with fail
  exact hQ _ _ rfl rfl h3 HB3.out

set_option maxRecDepth 100000 in
set_option maxHeartbeats 1600000 in
/-- 'ready' says yes: nil -/
theorem round_c {w : World} {kb mk nb nv cb cl : Nat} {K m calls dones errs : Int} {chg err fin gv : Value} {calls' : Int} {Q : Exit → Act → World → Prop} {a : Act} (hs : Sh kb mk nb nv cb cl a)
    (h : Env w kb mk nb nv cb cl K m calls dones errs 0 false chg err fin gv)
    (hR : ∀ w1, Env w1 kb mk nb nv cb cl K m calls dones errs 1 false chg err fin gv → Calls Ybad.prog 6 #[.pointer (some ⟨cl, 0, none⟩), .pointer (some ⟨kb, 0, none⟩), .pointer (some ⟨nv, 0, none⟩), .pointer (some ⟨mk, 0, none⟩)] w1 fun e w' => e = .returned (.bool true) ∧ Env w' kb mk nb nv cb cl K m calls' dones errs 1 false chg err fin gv ∧ Below kb w1 w')
    (hQ : ∀ a' w', a'.defers = [] → a'.tmps.getD 6 undef = .nilIface → Env w' kb mk nb nv cb cl K m calls' dones errs 0 false chg err fin gv → Below kb w w' → Q .ret a' w') :
    wpN Ybad.prog (inner Ybad.f7.body) Q a w := by
  obtain ⟨u3, u4, u5, u6, u7, u8, u9, u10, u11, u12, u13, u14, u15, u16, u17, u18, u19, u20, u21, u22, u23, u24, u25, u26, u27, u28, u29, u30, u31, u32, u33, u34, u35, u36, u37, u38, u39, u40, u41, u42, u43, u44, u45, rfl⟩ := hs
  have hc1 := h.hmu
  have hf1 := h.f1
  have h1 := h.setMu 1
  have HL : Hid (Calls Ybad.prog 8 #[.pointer (some ⟨nb, 59, none⟩)] w fun e w' => e = .returned (.tuple #[]) ∧ w' = w.setCell ⟨nb, 59, none⟩ (.int .i32 1)) := Go.MuLone.lock_free muLib _ w hc1 hf1
  unfold Ybad.f7
  dsimp only [inner]
  refine wpN_block (wpN_seq fun K1 hK1 => ?_)
  go_wp2_with fail
  refine HL.out.mono ?_
  rintro e w1 ⟨rfl, hw1⟩
  rw [← hw1] at h1
  have HB1 : Hid (Below kb w w1) := by
    rw [hw1]
    exact (Below.refl kb w).setCell (by have := h.l1; have := h.l2; show kb ≤ nb; omega) _
  have HR : Hid (Calls Ybad.prog 6 #[.pointer (some ⟨cl, 0, none⟩), .pointer (some ⟨kb, 0, none⟩), .pointer (some ⟨nv, 0, none⟩), .pointer (some ⟨mk, 0, none⟩)] w1 fun e w' => e = .returned (.bool true) ∧ Env w' kb mk nb nv cb cl K m calls' dones errs 1 false chg err fin gv ∧ Below kb w1 w') := hR w1 h1
  clear hw1 HL hc1 hf1 hR h
  have hclo := h1.hclo
  go_wp2_with fail
  refine wpN_seq fun K1 hK1 => ?_
  go_wp2_with fail
  refine wpN_seq fun K1 hK1 => ?_
  go_wp2_with fail
  refine HR.out.mono ?_
  rintro e w2 ⟨rfl, h2, hb2⟩
  have HB2 : Hid (Below kb w w2) := HB1.out.trans hb2
  clear HB1 HR hclo h1 hb2
  go_wp2_with fail
  have hchg := h2.hchg
  have hc1 := h2.hmu
  have hf1 := h2.f1
  have h3 := h2.setMu 0
  have HL : Hid (Calls Ybad.prog 9 #[.pointer (some ⟨nb, 59, none⟩)] w2 fun e w' => e = .returned (.tuple #[]) ∧ w' = w2.setCell ⟨nb, 59, none⟩ (.int .i32 0)) := Go.MuLone.unlock_held muLib _ w2 hc1 hf1
  refine wpN_seq fun K1 hK1 => ?_
  go_wp2_with fail
  refine wpN_seq fun K1 hK1 => ?_
  go_wp2_with fail
  refine HL.out.mono ?_
  rintro e w3 ⟨rfl, hw3⟩
  rw [← hw3] at h3
  have HB3 : Hid (Below kb w w3) := by
    rw [hw3]
    exact HB2.out.setCell (by have := h3.l1; have := h3.l2; show kb ≤ nb; omega) _
  clear hw3 HB2 h2 HL hc1 hf1 hchg
  go_wp2_with fail
  refine wpN_seq fun K1 hK1 => ?_
  go_wp2_with fail
  exact hQ _ _ rfl rfl h3 HB3.out

end Go.Proofs.YbulkckvkDoor
