import Derived.Test.YbulkckvkDoorRo
namespace Go.Proofs.YbulkckvkDoor
open Go.RowKit Go.Conc
set_option linter.unusedVariables false

theorem wr {x : Int} (h0 : 0 ≤ x) (h1 : x ≤ 1000) : IntKind.wrap .i64 x = x := by
  rw [IntKind.wrap_i64]
  omega

/-- the first K turns -/
theorem turns {kb mk nb nv cb cl : Nat} {kn : Nat} (hkn : kn ≤ 600) {m errs : Int} {err gv : Value} {fin : Option Nat} {Q : Exit → Act → World → Prop} {w0 : World}
    (hlast : ∀ a w, Sh kb mk nb nv cb cl a → (∃ chg, Env w kb mk nb nv cb cl (kn : Int) m (kn : Int) (kn : Int) errs 0 false chg err (.chan fin) gv) → Below kb w0 w → wpL Ybad.prog (inner Ybad.f7.body) Q a w) :
    ∀ n j, j + n = kn → ∀ a w, Sh kb mk nb nv cb cl a → (∃ chg, Env w kb mk nb nv cb cl (kn : Int) m (j : Int) (j : Int) errs 0 false chg err (.chan fin) gv) → Below kb w0 w → wpL Ybad.prog (inner Ybad.f7.body) Q a w := by
  intro n
  induction n with
  | zero =>
    intro j hj
    obtain rfl : j = kn := by omega
    exact hlast
  | succ n ih =>
    intro j hj a w hs ⟨chg, hE⟩ hb
    refine wpL_step (round_b1 (calls' := ((j + 1 : Nat) : Int)) (clo' := false) hs hE (fun w1 h1 => ?_) (wr (by omega) (by omega)) (fun h => absurd h (by omega)) ?_)
    · exact ready_early h1 (wr (by omega) (by omega)) (by omega)
    · intro a' w' hs' ⟨c, hE'⟩ hb'
      exact ih (j + 1) (by omega) a' w' hs' ⟨_, hE'⟩ (hb.trans hb')
set_option maxRecDepth 100000 in
set_option maxHeartbeats 1600000 in
theorem await_start {kb mk nb nv cb cl : Nat} {w : World} {R : Ending → World → Prop}
    (h : ∀ a, Sh kb mk nb nv cb cl a → wpL Ybad.prog (inner Ybad.f7.body) (Exit.inBlock 0 (retPost 6 R)) a w) :
    Calls Ybad.prog 7 #[.pointer (some ⟨nb, 0, none⟩), .iface 71 (.pointer (some ⟨cb, 0, none⟩)), .func (.func 6) #[] #[.pointer (some ⟨cl, 0, none⟩), .pointer (some ⟨kb, 0, none⟩), .pointer (some ⟨nv, 0, none⟩), .pointer (some ⟨mk, 0, none⟩)]] w R := by
  refine calls_of_wpN Ybad.func7 rfl rfl ?_
  simp only [Ybad.ntmps7, List.size_toArray, List.length_cons, List.length_nil, Nat.reduceAdd, Nat.reduceSub, Array.replicate_succ, Array.replicate_zero, List.push_toArray, List.append_toArray, List.nil_append, List.cons_append]
  refine wpN_seq fun K1 hK1 => ?_
  go_wp2_with fail
  refine wpN_block (wpN_loop ?_)
  exact h _ ⟨_, _, _, _, _, _, _, _, _, _, _, _, _, _, _, _, _, _, _, _, _, _, _, _, _, _, _, _, _, _, _, _, _, _, _, _, _, _, _, _, _, _, _, rfl⟩

/-- the node is closed ahead of the call -/
theorem await_closed {kb mk nb nv cb cl : Nat} {w : World} {K m calls dones errs : Int} {chg err fin gv : Value} (h : Env w kb mk nb nv cb cl K m calls dones errs 0 true chg err fin gv) :
    Calls Ybad.prog 7 #[.pointer (some ⟨nb, 0, none⟩), .iface 71 (.pointer (some ⟨cb, 0, none⟩)), .func (.func 6) #[] #[.pointer (some ⟨cl, 0, none⟩), .pointer (some ⟨kb, 0, none⟩), .pointer (some ⟨nv, 0, none⟩), .pointer (some ⟨mk, 0, none⟩)]] w fun e w' => e = .returned gv ∧ (∃ chg clo, Env w' kb mk nb nv cb cl K m calls dones errs 0 clo chg err fin gv) ∧ Below kb w w' :=
  await_start fun a hs => wpL_step (round_a hs h fun a' w' hd hv hE hb => ⟨rfl, hd, by rw [hv], ⟨_, _, hE⟩, hb⟩)

/-- m = 0: ready at turn K -/
theorem await_zero {kb mk nb nv cb cl : Nat} {w : World} {kn : Nat} (hkn : kn ≤ 600) {chg err gv : Value} {fin : Option Nat} (h : Env w kb mk nb nv cb cl (kn : Int) 0 0 0 0 0 false chg err (.chan fin) gv) :
    Calls Ybad.prog 7 #[.pointer (some ⟨nb, 0, none⟩), .iface 71 (.pointer (some ⟨cb, 0, none⟩)), .func (.func 6) #[] #[.pointer (some ⟨cl, 0, none⟩), .pointer (some ⟨kb, 0, none⟩), .pointer (some ⟨nv, 0, none⟩), .pointer (some ⟨mk, 0, none⟩)]] w fun e w' => e = .returned .nilIface ∧ (∃ chg clo, Env w' kb mk nb nv cb cl (kn : Int) 0 ((kn : Int) + 1) (kn : Int) 0 0 clo chg err (.chan fin) gv) ∧ Below kb w w' := by
  refine await_start fun a hs => turns (w0 := w) hkn ?_ kn 0 (by omega) a w hs ⟨chg, h⟩ (Below.refl kb w)
  intro a1 w1 hs1 ⟨chg1, hE1⟩ hb1
  refine wpL_step (round_c (calls' := (kn : Int) + 1) hs1 hE1 (fun w2 h2 => ?_) fun a' w' hd hv hE hb => ⟨rfl, hd, by rw [hv], ⟨_, _, hE⟩, hb1.trans hb⟩)
  refine (ready_zero h2 (wr (by omega) (by omega))).mono ?_
  rintro e w3 ⟨rfl, rfl⟩
  exact ⟨rfl, h2.setCalls _, (Below.refl kb w2).setCell (by have := h2.l1; have := h2.l2; have := h2.l3; have := h2.l4; have := h2.l5; show kb ≤ cl; omega) _⟩

/-- m = 1: the context is done at turn K -/
theorem await_one {kb mk nb nv cb cl : Nat} {w : World} {kn : Nat} (hkn : kn ≤ 600) {chg err gv : Value} {f : Nat} (h : Env w kb mk nb nv cb cl (kn : Int) 1 0 0 0 0 false chg err (.chan (some f)) gv) :
    Calls Ybad.prog 7 #[.pointer (some ⟨nb, 0, none⟩), .iface 71 (.pointer (some ⟨cb, 0, none⟩)), .func (.func 6) #[] #[.pointer (some ⟨cl, 0, none⟩), .pointer (some ⟨kb, 0, none⟩), .pointer (some ⟨nv, 0, none⟩), .pointer (some ⟨mk, 0, none⟩)]] w fun e w' => e = .returned err ∧ (∃ chg clo, Env w' kb mk nb nv cb cl (kn : Int) 1 ((kn : Int) + 1) ((kn : Int) + 1) 1 0 clo chg err (.chan (some f)) gv) ∧ Below kb w w' := by
  refine await_start fun a hs => turns (w0 := w) hkn ?_ kn 0 (by omega) a w hs ⟨chg, h⟩ (Below.refl kb w)
  intro a1 w1 hs1 ⟨chg1, hE1⟩ hb1
  refine wpL_step (round_b2 (calls' := (kn : Int) + 1) (clo' := false) hs1 hE1 (fun w2 h2 => ready_one h2 (wr (by omega) (by omega))) (wr (by omega) (by omega)) (wr (by omega) (by omega)) (by omega) fun a' w' hd hv ⟨c, hE⟩ hb => ⟨rfl, hd, by rw [hv], ⟨_, _, hE⟩, hb1.trans hb⟩)

/-- m = 2: the node is closed at turn K -/
theorem await_two {kb mk nb nv cb cl : Nat} {w : World} {kn : Nat} (hkn : kn ≤ 600) {chg err gv : Value} (h : Env w kb mk nb nv cb cl (kn : Int) 2 0 0 0 0 false chg err (.chan none) gv) :
    Calls Ybad.prog 7 #[.pointer (some ⟨nb, 0, none⟩), .iface 71 (.pointer (some ⟨cb, 0, none⟩)), .func (.func 6) #[] #[.pointer (some ⟨cl, 0, none⟩), .pointer (some ⟨kb, 0, none⟩), .pointer (some ⟨nv, 0, none⟩), .pointer (some ⟨mk, 0, none⟩)]] w fun e w' => e = .returned gv ∧ (∃ chg clo, Env w' kb mk nb nv cb cl (kn : Int) 2 ((kn : Int) + 1) ((kn : Int) + 1) 0 0 clo chg err (.chan none) gv) ∧ Below kb w w' := by
  refine await_start fun a hs => turns (w0 := w) hkn ?_ kn 0 (by omega) a w hs ⟨chg, h⟩ (Below.refl kb w)
  intro a1 w1 hs1 ⟨chg1, hE1⟩ hb1
  refine wpL_step (round_b1 (calls' := (kn : Int) + 1) (clo' := true) hs1 hE1 (fun w2 h2 => ready_two h2 (wr (by omega) (by omega))) (wr (by omega) (by omega)) (fun _ => rfl) ?_)
  intro a2 w2 hs2 ⟨c, hE2⟩ hb2
  exact wpL_step (round_a hs2 hE2 fun a' w' hd hv hE hb => ⟨rfl, hd, by rw [hv], ⟨_, _, hE⟩, (hb1.trans hb2).trans hb⟩)

end Go.Proofs.YbulkckvkDoor
