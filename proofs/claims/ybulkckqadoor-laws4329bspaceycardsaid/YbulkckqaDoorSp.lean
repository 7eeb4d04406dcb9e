import Derived.Test.YbulkckqaDoorLaid
import Derived.Test.YbulkckqaDoorSw
import Derived.Test.YbulkckqaDoorTie
import Derived.Test.YbulkckqaDoorCards
import Derived.SevenTiedAt
namespace Go.Proofs.YbulkckqaDoor
open Go.ChangeShapes Go.WideShapes Go.ChangeAt Go.RowKit

theorem spacey_all (sa : Option Addr) (n c : Nat) (zs : List Int) (x : Int) (a : Addr) (w : World) (hr : IsRow .u8 w sa n c zs) (hx : (Lit.int .u64 x).wf = true)
    (hc : w.cell? ⟨0, 0, none⟩ = some (.iface 93 (.pointer (some a)))) :
    Calls Ybad.prog 5 #[.slice sa n c, .int .u64 x] w fun e w' => e = .returned (.bool true) ∧ Below w.heap.size w w' := by
  have hb := bounds_u64 hx
  by_cases hz : n ≤ 0
  · exact spacey_zero sa n c x a w (by omega) hz (by omega) (by omega) hc
  rcases hr with ⟨rfl, rfl, rfl, rfl⟩ | ⟨y, rfl, hl, hm, hz, hcell, hwf⟩
  · omega
  by_cases hn : n ≤ 1024
  · obtain ⟨b, off, spot⟩ := y
    have hspot : spot = none := by simpa [Addr.add] using World.cell?_spot (hcell 0 (by omega))
    subst hspot
    refine spacey_any b off n c x a w hn zs (fun j hj => ?_) (fun j hj => ?_) (by omega) (by omega) hc
    · have hjl : j < zs.length := by omega
      have hj2 : zs.getD j 0 ∈ zs := by simp [List.getD, hjl]
      have := bounds_u8 (hwf _ hj2)
      omega
    · have := hcell j (by omega)
      rw [addP] at this
      exact this
  · exact spacey_long _ n c x w (by omega) (by omega)

set_option maxRecDepth 100000 in
theorem spacey_lifted (os : Os) (started : os.Started) (H : Type) (enc : TypeId × Value → H) :
    ReturnsInHanded {} Ybad.checked os 5 .any (fun w args => (Rows.lawS4329BSpaceySpec.pre enc Ybad.prog Ybad.f5 [] false w args ∧ laidMetH Ybad.prog Rows.lawS4329BSpaceyRow.laid w) ∧ sizedMet enc Ybad.prog Ybad.f5 (OpenSpec.ofChange Rows.lawS4329BSpaceySpec) false w args)
      (Rows.lawS4329BSpaceySpec.post enc Ybad.prog Ybad.f5 false true false false) := by
  refine returnsInHanded_of_change_and (C := Ybad.checked) (X := fun w _ => laidMetH Ybad.prog Rows.lawS4329BSpaceyRow.laid w) (fun _ _ _ hh h => h.of_heap hh) own started (by kernel_rfl) Ybad.func5
    (ChangeSpec.witness_shaped (enc := enc) (C := Ybad.checked) (os := os) (X := fun w _ => laidMetH Ybad.prog Rows.lawS4329BSpaceyRow.laid w) false (World.doorLaid Ybad.prog 76 os) #[.slice none 0 0, .int .u64 0] 8 rfl (World.shaped_of_RefB (by kernel_rfl) (by kernel_rfl)) (by kernel_rfl) (by kernel_rfl) (by kernel_rfl) (door_met1 os _)) ?_
  intro W base args ds gs before hval0 hW _ _ hL _
  have hval : ∀ (j : Nat) t v, Ybad.f5.params[j]? = some t → args[j]? = some v → Value.okWide Ybad.prog W .any base t v := hval0
  have hW' := hW
  obtain ⟨p, q, hA0, hV0, rfl, hfz, hnd⟩ := hW
  have hA : DataW.TrodAll enc Ybad.prog W 0 (fun _ => true) true Ybad.f5.params.toList args.toList ds p := hA0
  have hV : DataW.TrodVars enc Ybad.prog W (fun _ => true) Rows.lawS4329BModelSpec.vars gs q := hV0
  rw [Ybad.params5] at hA hval
  obtain ⟨v0, vs0, d0, ds0, p0, q0, hargs, rfl, rfl, h0, r0⟩ := trodAll_cons hA
  obtain ⟨v1, vs1, d1, ds1, p1, q1, rfl, rfl, rfl, h1, r1⟩ := trodAll_cons r0
  obtain ⟨rfl, rfl, rfl⟩ := trodAll_nil r1
  obtain rfl : args = #[v0, v1] := by cases args; simp_all
  obtain ⟨a0, hv0⟩ := sentinel1 hL
  obtain ⟨rfl, rfl⟩ := hV.unique (vars_read1 enc hv0 trivial _)
  obtain ⟨x0, len0, cap0, rfl⟩ := okWide_slice Ybad.underlying22 (hval 0 22 v0 rfl rfl)
  have k0 := h0
  have lt0 : ∀ x ∈ p0, x.block < W.heap.size := by obtain ⟨m, hm⟩ := k0; exact DataW.trod_lt m _ _ _ hm
  obtain ⟨z0, w0⟩ : ∃ zs, IsRow .u8 W x0 len0 cap0 zs := by
    obtain ⟨fuel, hf⟩ := h0
    rcases open_ints Ybad.underlying22 Ybad.underlying5 (by kernel_rfl) hf with ⟨hcs, _⟩ | ⟨x, l, c, zs, hcs, _, hl, hm, hz, _, hcell, hwz⟩
    · simp [Value.cells] at hcs
      obtain ⟨rfl, rfl, rfl⟩ := hcs
      exact ⟨[], .inl ⟨rfl, rfl, rfl, rfl⟩⟩
    · simp [Value.cells] at hcs
      obtain ⟨rfl, rfl, rfl⟩ := hcs
      exact ⟨zs, .inr ⟨_, rfl, hl, hm, by simpa using hz, hcell, hwz⟩⟩
  obtain ⟨x1, rfl, rfl, rfl, w1⟩ := open_int Ybad.underlying30 (hval 1 30 v1 rfl rfl) h1
  clear hA0 hV0 hval0
  have hg0 : W.cell? ⟨0, 0, none⟩ = some (.iface 93 (.pointer (some a0))) := by simpa using World.var?_cell gSyn hv0 0
  have hpos := lt_of_cell' hg0
  refine (spacey_all x0 len0 cap0 z0 x1 a0 W w0 w1 hg0).mono fun e W' ⟨he, bel⟩ => ?_
  subst he
  exact ⟨_, rfl, _, _, _, [], _, [.cell 0 0], hW', trodAll_mk1 (shut_bool Ybad.underlying4 _), (trodAll_cons_mk (Below.trod laidOut (by kernel_rfl) (of_decide_eq_true (by kernel_rfl)) k0 bel lt0) (trodAll_cons_mk (shut_int Ybad.underlying30 w1) trodAll_mk0)), vars_read1 enc (var?_below bel gSyn hpos hv0) trivial _, bel.frame _, fun h => by cases h⟩

theorem spacey_holds : Rows.LawS4329BSpaceySaid :=
  OpenClaim.holds_of_wide 5 Ybad.f5 rfl rfl rfl rfl rfl rfl rfl ⟨rfl, rfl, rfl, rfl, rfl⟩ rfl rfl rfl rfl rfl (by kernel_rfl) Ybad.func5 (by kernel_rfl)
    (of_decide_eq_true (by kernel_rfl)) (by unfold Func.isWrapper; first | (rw [if_pos (by decide +kernel)]; kernel_rfl) | (rw [if_neg (by decide +kernel)]; exact ⟨rfl, rfl⟩))
    (fun os started H enc _ => spacey_lifted os started H enc)

theorem spacey_card : Rows.LawS4329BSpaceyCardSaid :=
  Claim7.holds_tied_plain_at .later [] [.sentinel] true (true, "b3e780121cffe1aaaeda4eb9022db8f845f500049eafc50ecc252a7536744a45") true
    spacey_holds (fun _ h => by cases h) (by kernel_rfl) (fun _ h => by cases h) lawS4329BSpacey_row_tie rfl ⟨rfl, rfl⟩ (by kernel_rfl) rfl
    (fun f fn hf hfn => by
      obtain rfl : f = 5 := Option.some.inj ((show Ybad.prog.funcNamed Rows.lawS4329BSpaceyRow.func = some 5 by kernel_rfl).symm.trans hf) |>.symm
      obtain rfl : fn = Ybad.f5 := (Option.some.inj (Ybad.func5.symm.trans hfn)).symm
      exact ⟨by kernel_rfl, fun j t ht => by
        rw [Ybad.params5] at ht
        have hm : t ∈ [22, 30] := by simpa using Array.mem_of_getElem? ht
        have hall : ([22, 30].all fun u => !Ybad.prog.wantsStandIn u) = true := by kernel_rfl
        exact (show Ybad.prog.wantsStandIn t = false by simpa using List.all_eq_true.1 hall t hm)⟩)
    (by kernel_rfl)
end Go.Proofs.YbulkckqaDoor
