import Derived.Test.YbulkckqaDoorLaid
import Derived.Test.YbulkckqaDoorBw
import Derived.Test.YbulkckqaDoorTie
import Derived.Test.YbulkckqaDoorCards
import Derived.SevenTiedAt
namespace Go.Proofs.YbulkckqaDoor
open Go.ChangeShapes Go.WideShapes Go.ChangeAt Go.RowKit

/-- From what the row says of a slice of bytes to what the walks ask. -/
theorem src_of_row {w : World} {sa : Option Addr} {len cap : Nat} {zs : List Int} (h : IsRow .u8 w sa len cap zs) : Src w sa len cap (zs.take len) ∧ len ≤ maxLen := by
  rcases h with ⟨rfl, rfl, rfl, rfl⟩ | ⟨x, rfl, hl, hm, hz, hc, _⟩
  · exact ⟨⟨rfl, .inl ⟨rfl, rfl, rfl⟩⟩, Nat.zero_le _⟩
  · refine ⟨⟨by simp; omega, .inr ⟨x, rfl, ?_⟩⟩, by omega⟩
    by_cases h0 : len = 0
    · exact .inl h0
    · refine .inr ?_
      obtain ⟨b, off, spot⟩ := x
      have hspot : spot = none := by simpa [Addr.add] using World.cell?_spot (hc 0 (by omega))
      subst hspot
      refine ⟨rfl, fun j hj => ?_⟩
      have := hc j (by omega)
      rw [addP] at this
      rw [this]
      simp [List.getD, hj]

theorem model_all (sa : Option Addr) (n c : Nat) (zs : List Int) (x : Int) (d : Int) (lone : Bool) (a : Addr) (w : World) (hr : IsRow .u8 w sa n c zs) (hx : (Lit.int .u64 x).wf = true)
    (hc : w.cell? ⟨0, 0, none⟩ = some (.iface 93 (.pointer (some a)))) :
    Calls Ybad.prog 4 #[.slice sa n c, .int .u64 x, .int .i64 d, .bool lone] w fun e w' => e = .returned (.bool true) ∧ Below w.heap.size w w' := by
  obtain ⟨hS, hm⟩ := src_of_row hr
  have hb := bounds_u64 hx
  by_cases hn : n ≤ 1024
  · exact model_any sa n c _ x d lone a w hS hn (by omega) (by omega) hc
  · exact model_long sa n c x d lone w (by omega) hm

set_option maxRecDepth 100000 in
theorem model_lifted (os : Os) (started : os.Started) (H : Type) (enc : TypeId × Value → H) :
    ReturnsInHanded {} Ybad.checked os 4 .any (fun w args => (Rows.lawS4329BModelSpec.pre enc Ybad.prog Ybad.f4 [] false w args ∧ laidMetH Ybad.prog Rows.lawS4329BModelRow.laid w) ∧ sizedMet enc Ybad.prog Ybad.f4 (OpenSpec.ofChange Rows.lawS4329BModelSpec) false w args)
      (Rows.lawS4329BModelSpec.post enc Ybad.prog Ybad.f4 false true false false) := by
  refine returnsInHanded_of_change_and (C := Ybad.checked) (X := fun w _ => laidMetH Ybad.prog Rows.lawS4329BModelRow.laid w) (fun _ _ _ hh h => h.of_heap hh) own started (by kernel_rfl) Ybad.func4
    (ChangeSpec.witness_shaped (enc := enc) (C := Ybad.checked) (os := os) (X := fun w _ => laidMetH Ybad.prog Rows.lawS4329BModelRow.laid w) false (World.doorLaid Ybad.prog 76 os) #[.slice none 0 0, .int .u64 0, .int .i64 0, .bool false] 8 rfl (World.shaped_of_RefB (by kernel_rfl) (by kernel_rfl)) (by kernel_rfl) (by kernel_rfl) (by kernel_rfl) (door_met1 os _)) ?_
  intro W base args ds gs before hval0 hW _ _ hL _
  have hval : ∀ (j : Nat) t v, Ybad.f4.params[j]? = some t → args[j]? = some v → Value.okWide Ybad.prog W .any base t v := hval0
  have hW' := hW
  obtain ⟨p, q, hA0, hV0, rfl, hfz, hnd⟩ := hW
  have hA : DataW.TrodAll enc Ybad.prog W 0 (fun _ => true) true Ybad.f4.params.toList args.toList ds p := hA0
  have hV : DataW.TrodVars enc Ybad.prog W (fun _ => true) Rows.lawS4329BModelSpec.vars gs q := hV0
  rw [Ybad.params4] at hA hval
  obtain ⟨v0, vs0, d0, ds0, p0, q0, hargs, rfl, rfl, h0, r0⟩ := trodAll_cons hA
  obtain ⟨v1, vs1, d1, ds1, p1, q1, rfl, rfl, rfl, h1, r1⟩ := trodAll_cons r0
  obtain ⟨v2, vs2, d2, ds2, p2, q2, rfl, rfl, rfl, h2, r2⟩ := trodAll_cons r1
  obtain ⟨v3, vs3, d3, ds3, p3, q3, rfl, rfl, rfl, h3, r3⟩ := trodAll_cons r2
  obtain ⟨rfl, rfl, rfl⟩ := trodAll_nil r3
  obtain rfl : args = #[v0, v1, v2, v3] := by cases args; simp_all
  obtain ⟨a0, hv0⟩ := sentinel1 hL
  obtain ⟨rfl, rfl⟩ := hV.unique (vars_read1 enc hv0 trivial _)
  obtain ⟨x0, len0, cap0, rfl⟩ := okWide_slice Ybad.underlying22 (hval 0 22 v0 rfl rfl)
  have k0 := h0
  have lt0 : ∀ x ∈ p0, x.block < W.heap.size := by obtain ⟨m, hm⟩ := k0; exact DataW.trod_lt m _ _ _ hm
  obtain ⟨z0, w0⟩ : ∃ zs, IsRow .u8 W x0 len0 cap0 zs := by
    obtain ⟨fuel, hf⟩ := h0
    rcases open_ints Ybad.underlying22 Ybad.underlying5 (by kernel_rfl) hf with ⟨hcs, _⟩ | ⟨x, l, c, zs, hcs, _, hl, hm, hz, _, hcell, hwz⟩
    · simp [Value.cells] at hcs
      obtain ⟨rfl, rfl, rfl⟩ := hcs
      exact ⟨[], .inl ⟨rfl, rfl, rfl, rfl⟩⟩
    · simp [Value.cells] at hcs
      obtain ⟨rfl, rfl, rfl⟩ := hcs
      exact ⟨zs, .inr ⟨_, rfl, hl, hm, by simpa using hz, hcell, hwz⟩⟩
  obtain ⟨x1, rfl, rfl, rfl, w1⟩ := open_int Ybad.underlying30 (hval 1 30 v1 rfl rfl) h1
  obtain ⟨x2, rfl, rfl, rfl, w2⟩ := open_int Ybad.underlying3 (hval 2 3 v2 rfl rfl) h2
  obtain ⟨b3, rfl, rfl, rfl⟩ := open_bool Ybad.underlying4 (hval 3 4 v3 rfl rfl) h3
  clear hA0 hV0 hval0
  have hg0 : W.cell? ⟨0, 0, none⟩ = some (.iface 93 (.pointer (some a0))) := by simpa using World.var?_cell gSyn hv0 0
  have hpos := lt_of_cell' hg0
  refine (model_all x0 len0 cap0 z0 x1 x2 b3 a0 W w0 w1 hg0).mono fun e W' ⟨he, bel⟩ => ?_
  subst he
  exact ⟨_, rfl, _, _, _, [], _, [.cell 0 0], hW', trodAll_mk1 (shut_bool Ybad.underlying4 _), (trodAll_cons_mk (Below.trod laidOut (by kernel_rfl) (of_decide_eq_true (by kernel_rfl)) k0 bel lt0) (trodAll_cons_mk (shut_int Ybad.underlying30 w1) (trodAll_cons_mk (shut_int Ybad.underlying3 w2) (trodAll_cons_mk (shut_bool Ybad.underlying4 _) trodAll_mk0)))), vars_read1 enc (var?_below bel gSyn hpos hv0) trivial _, bel.frame _, fun h => by cases h⟩

theorem model_holds : Rows.LawS4329BModelSaid :=
  OpenClaim.holds_of_wide 4 Ybad.f4 rfl rfl rfl rfl rfl rfl rfl ⟨rfl, rfl, rfl, rfl, rfl⟩ rfl rfl rfl rfl rfl (by kernel_rfl) Ybad.func4 (by kernel_rfl)
    (of_decide_eq_true (by kernel_rfl)) (by unfold Func.isWrapper; first | (rw [if_pos (by decide +kernel)]; kernel_rfl) | (rw [if_neg (by decide +kernel)]; exact ⟨rfl, rfl⟩))
    (fun os started H enc _ => model_lifted os started H enc)

theorem model_card : Rows.LawS4329BModelCardSaid :=
  Claim7.holds_tied_plain_at .later [] [.sentinel] true (true, "b3e780121cffe1aaaeda4eb9022db8f845f500049eafc50ecc252a7536744a45") true
    model_holds (fun _ h => by cases h) (by kernel_rfl) (fun _ h => by cases h) lawS4329BModel_row_tie rfl ⟨rfl, rfl⟩ (by kernel_rfl) rfl
    (fun f fn hf hfn => by
      obtain rfl : f = 4 := Option.some.inj ((show Ybad.prog.funcNamed Rows.lawS4329BModelRow.func = some 4 by kernel_rfl).symm.trans hf) |>.symm
      obtain rfl : fn = Ybad.f4 := (Option.some.inj (Ybad.func4.symm.trans hfn)).symm
      exact ⟨by kernel_rfl, fun j t ht => by
        rw [Ybad.params4] at ht
        have hm : t ∈ [22, 30, 3, 4] := by simpa using Array.mem_of_getElem? ht
        have hall : ([22, 30, 3, 4].all fun u => !Ybad.prog.wantsStandIn u) = true := by kernel_rfl
        exact (show Ybad.prog.wantsStandIn t = false by simpa using List.all_eq_true.1 hall t hm)⟩)
    (by kernel_rfl)
end Go.Proofs.YbulkckqaDoor
