import Derived.Test.YbulkckqaDoorLaid
import Derived.Test.YbulkckqaDoorAw
import Derived.Test.YbulkckqaDoorTie
import Derived.Test.YbulkckqaDoorCards
import Derived.SevenTiedAt
namespace Go.Proofs.YbulkckqaDoor
open Go.ChangeShapes Go.WideShapes Go.ChangeAt Go.RowKit

/-- The three walks as one. -/
theorem a_any (ok lone : Bool) (sa : Option Addr) (n c : Nat) (i d : Int) (a0 a1 : Addr) (c0 c1 : Array Value) (t0 t1 : TypeId) (w : World)
    (hc0 : w.cell? ⟨0, 0, none⟩ = some (.iface 93 (.pointer (some a0)))) (hc1 : w.cell? ⟨1, 0, none⟩ = some (.iface 93 (.pointer (some a1)))) (hne : a1 ≠ a0)
    (hb0 : w.heap[a0.block]? = some (.cells c0 t0 (0, 0))) (hb1 : w.heap[a1.block]? = some (.cells c1 t1 (0, 0))) :
    Calls Ybad.prog 3 #[.bool ok, .bool lone, .slice sa n c, .int .i64 i, .int .i64 d] w fun e w' => e = .returned (.bool true) ∧ Below w.heap.size w w' := by
  cases ok
  · refine (a_bad lone sa n c i d a0 w hc0).mono fun e w' h => ⟨h.1, ?_⟩
    rw [h.2]; exact (Below.refl _ _).alloc (Nat.le_refl _) _
  · cases lone
    · refine (a_nil sa n c i d w).mono fun e w' h => ⟨h.1, ?_⟩
      rw [h.2]; exact (Below.refl _ _).alloc (Nat.le_refl _) _
    · refine (a_lone sa n c i d a0 a1 c0 c1 t0 t1 w hc0 hc1 hne hb0 hb1).mono fun e w' h => ⟨h.1, ?_⟩
      rw [h.2]; exact (Below.refl _ _).alloc (Nat.le_refl _) _

set_option maxRecDepth 100000 in
theorem a_lifted (os : Os) (started : os.Started) (H : Type) (enc : TypeId × Value → H) :
    ReturnsInHanded {} Ybad.checked os 3 .any (fun w args => (Rows.lawS4329ACheckedSpec.pre enc Ybad.prog Ybad.f3 [] false w args ∧ laidMetH Ybad.prog Rows.lawS4329ACheckedRow.laid w) ∧ sizedMet enc Ybad.prog Ybad.f3 (OpenSpec.ofChange Rows.lawS4329ACheckedSpec) false w args)
      (Rows.lawS4329ACheckedSpec.post enc Ybad.prog Ybad.f3 false true false false) := by
  refine returnsInHanded_of_change_and (C := Ybad.checked) (X := fun w _ => laidMetH Ybad.prog Rows.lawS4329ACheckedRow.laid w) (fun _ _ _ hh h => h.of_heap hh) own started (by kernel_rfl) Ybad.func3
    (ChangeSpec.witness_shaped (enc := enc) (C := Ybad.checked) (os := os) (X := fun w _ => laidMetH Ybad.prog Rows.lawS4329ACheckedRow.laid w) false (World.doorLaid Ybad.prog 76 os) #[.bool false, .bool false, .slice none 0 0, .int .i64 0, .int .i64 0] 8 rfl (World.shaped_of_RefB (by kernel_rfl) (by kernel_rfl)) (by kernel_rfl) (by kernel_rfl) (by kernel_rfl) (door_met2 os _)) ?_
  intro W base args ds gs before hval0 hW _ _ hL _
  have hval : ∀ (j : Nat) t v, Ybad.f3.params[j]? = some t → args[j]? = some v → Value.okWide Ybad.prog W .any base t v := hval0
  have hW' := hW
  obtain ⟨p, q, hA0, hV0, rfl, hfz, hnd⟩ := hW
  have hA : DataW.TrodAll enc Ybad.prog W 0 (fun _ => true) true Ybad.f3.params.toList args.toList ds p := hA0
  have hV : DataW.TrodVars enc Ybad.prog W (fun _ => true) Rows.lawS4329ACheckedSpec.vars gs q := hV0
  rw [Ybad.params3] at hA hval
  obtain ⟨v0, vs0, d0, ds0, p0, q0, hargs, rfl, rfl, h0, r0⟩ := trodAll_cons hA
  obtain ⟨v1, vs1, d1, ds1, p1, q1, rfl, rfl, rfl, h1, r1⟩ := trodAll_cons r0
  obtain ⟨v2, vs2, d2, ds2, p2, q2, rfl, rfl, rfl, h2, r2⟩ := trodAll_cons r1
  obtain ⟨v3, vs3, d3, ds3, p3, q3, rfl, rfl, rfl, h3, r3⟩ := trodAll_cons r2
  obtain ⟨v4, vs4, d4, ds4, p4, q4, rfl, rfl, rfl, h4, r4⟩ := trodAll_cons r3
  obtain ⟨rfl, rfl, rfl⟩ := trodAll_nil r4
  obtain rfl : args = #[v0, v1, v2, v3, v4] := by cases args; simp_all
  obtain ⟨a0, a1, c0, c1, t0, t1, hv0, hv1, hne, hb0, hb1⟩ := sentinels hL
  obtain ⟨rfl, rfl⟩ := hV.unique (vars_read2 enc hv0 hv1 trivial trivial _)
  obtain ⟨b0, rfl, rfl, rfl⟩ := open_bool Ybad.underlying4 (hval 0 4 v0 rfl rfl) h0
  obtain ⟨b1, rfl, rfl, rfl⟩ := open_bool Ybad.underlying4 (hval 1 4 v1 rfl rfl) h1
  obtain ⟨x2, len2, cap2, rfl⟩ := okWide_slice Ybad.underlying22 (hval 2 22 v2 rfl rfl)
  have k2 := h2
  have lt2 : ∀ x ∈ p2, x.block < W.heap.size := by obtain ⟨m, hm⟩ := k2; exact DataW.trod_lt m _ _ _ hm
  obtain ⟨x3, rfl, rfl, rfl, w3⟩ := open_int Ybad.underlying3 (hval 3 3 v3 rfl rfl) h3
  obtain ⟨x4, rfl, rfl, rfl, w4⟩ := open_int Ybad.underlying3 (hval 4 3 v4 rfl rfl) h4
  clear hA0 hV0 hval0
  have hg0 : W.cell? ⟨0, 0, none⟩ = some (.iface 93 (.pointer (some a0))) := by simpa using World.var?_cell gSyn hv0 0
  have hg1 : W.cell? ⟨1, 0, none⟩ = some (.iface 93 (.pointer (some a1))) := by simpa using World.var?_cell gLone hv1 0
  have hpos := lt_of_cell hg0
  have hpos1 := lt_of_cell hg1
  refine (a_any b0 b1 x2 len2 cap2 x3 x4 a0 a1 c0 c1 t0 t1 W hg0 hg1 hne.symm hb0 hb1).mono fun e W' ⟨he, bel⟩ => ?_
  subst he
  exact ⟨_, rfl, _, _, _, [], _, [.cell 0 0, .cell 1 0], hW', trodAll_mk1 (shut_bool Ybad.underlying4 _), (trodAll_cons_mk (shut_bool Ybad.underlying4 _) (trodAll_cons_mk (shut_bool Ybad.underlying4 _) (trodAll_cons_mk (Below.trod laidOut (by kernel_rfl) (of_decide_eq_true (by kernel_rfl)) k2 bel lt2) (trodAll_cons_mk (shut_int Ybad.underlying3 w3) (trodAll_cons_mk (shut_int Ybad.underlying3 w4) trodAll_mk0))))), vars_read2 enc (var?_below bel gSyn hpos hv0) (var?_below bel gLone hpos1 hv1) trivial trivial _, bel.frame _, fun h => by cases h⟩

theorem a_holds : Rows.LawS4329ACheckedSaid :=
  OpenClaim.holds_of_wide 3 Ybad.f3 rfl rfl rfl rfl rfl rfl rfl ⟨rfl, rfl, rfl, rfl, rfl⟩ rfl rfl rfl rfl rfl (by kernel_rfl) Ybad.func3 (by kernel_rfl)
    (of_decide_eq_true (by kernel_rfl)) (by unfold Func.isWrapper; first | (rw [if_pos (by decide +kernel)]; kernel_rfl) | (rw [if_neg (by decide +kernel)]; exact ⟨rfl, rfl⟩))
    (fun os started H enc _ => a_lifted os started H enc)

theorem a_card : Rows.LawS4329ACheckedCardSaid :=
  Claim7.holds_tied_plain_at .later [] [.sentinel, .sentinel] true (true, "b3e780121cffe1aaaeda4eb9022db8f845f500049eafc50ecc252a7536744a45") true
    a_holds (fun _ h => by cases h) (by kernel_rfl) (fun _ h => by cases h) lawS4329AChecked_row_tie rfl ⟨rfl, rfl⟩ (by kernel_rfl) rfl
    (fun f fn hf hfn => by
      obtain rfl : f = 3 := Option.some.inj ((show Ybad.prog.funcNamed Rows.lawS4329ACheckedRow.func = some 3 by kernel_rfl).symm.trans hf) |>.symm
      obtain rfl : fn = Ybad.f3 := (Option.some.inj (Ybad.func3.symm.trans hfn)).symm
      exact ⟨by kernel_rfl, fun j t ht => by
        rw [Ybad.params3] at ht
        have hm : t ∈ [4, 4, 22, 3, 3] := by simpa using Array.mem_of_getElem? ht
        have hall : ([4, 4, 22, 3, 3].all fun u => !Ybad.prog.wantsStandIn u) = true := by kernel_rfl
        exact (show Ybad.prog.wantsStandIn t = false by simpa using List.all_eq_true.1 hall t hm)⟩)
    (by kernel_rfl)
end Go.Proofs.YbulkckqaDoor
