import Derived.Test.YbulkckvkDoorRd
import Derived.Conc.LoneSelectN
namespace Go.Proofs.YbulkckvkDoor
open Go.RowKit Go.Conc
set_option linter.unusedVariables false

/-- a walk that begins in an ordinary call's frame (there a select may be come to) -/
def wpN (P : Program) (c : Code) (Q : Exit → Act → World → Prop) (a : Act) (w : World) : Prop :=
  ∀ b : Frame, b.kind = .normal → ∀ k cs, ∃ e a' w', Q e a' w' ∧ Arrives P (lone (b.at a (.code c :: k)) cs w) b k cs e a' w'

/-- the same, inside a loop: at the head of a turn -/
def wpL (P : Program) (c : Code) (Q : Exit → Act → World → Prop) (a : Act) (w : World) : Prop :=
  ∀ b : Frame, b.kind = .normal → ∀ k cs, ∃ e a' w', Q e a' w' ∧ Arrives P (lone (b.at a (.code c :: .inLoop c :: k)) cs w) b k cs e a' w'

section
variable {P : Program} {c x y : Code} {Q : Exit → Act → World → Prop} {a : Act} {w : World}

theorem wpN_of_wp (h : c.wp P Q a w) : wpN P c Q a w := fun b _ k cs => h b k cs

theorem wpN_mono {Q' : Exit → Act → World → Prop} (h : wpN P c Q a w) (hq : ∀ e a w, Q e a w → Q' e a w) : wpN P c Q' a w := fun b hb k cs => by
  obtain ⟨e, a', w', q, r⟩ := h b hb k cs
  exact ⟨e, a', w', hq _ _ _ q, r⟩

theorem then_other {N : Act → World → Prop} {e : Exit} (he : e ≠ .normal) (h : Exit.then N Q e a w) : Q e a w := by
  cases e <;> first | exact absurd rfl he | exact h

theorem wpN_seqN (h : wpN P x (Exit.then (wpN P y Q) Q) a w) : wpN P (.seq x y) Q a w := fun b hb k cs => by
  obtain ⟨e, a1, w1, hq, har⟩ := h b hb (.code y :: k) cs
  by_cases he : e = .normal
  · subst he
    obtain ⟨e2, a2, w2, hq2, har2⟩ := hq b hb k cs
    exact ⟨e2, a2, w2, hq2, .of_steps (.head step_seq har) har2⟩
  · exact ⟨e, a1, w1, then_other he hq, .of_steps (.one step_seq) (Arrives.pass (x := .code y) rfl (fun _ _ => .inl he) har)⟩

theorem wpN_seq (h : ∀ K : Act → World → Prop, (∀ a w, wpN P y Q a w → K a w) → x.wp P (Exit.then K Q) a w) : wpN P (.seq x y) Q a w :=
  wpN_seqN (wpN_of_wp (h _ fun _ _ h => h))

theorem wpN_block {id : Nat} (h : wpN P c (Exit.inBlock id Q) a w) : wpN P (.block id c) Q a w := fun b hb k cs => by
  obtain ⟨e, a1, w1, hq, har⟩ := h b hb (.inBlock id :: k) cs
  match e, hq, har with
  | .normal, hq, har => exact ⟨.normal, a1, w1, hq, .head step_block (Steps.trans har (.one step_inBlock))⟩
  | .exit j, hq, har =>
    by_cases hj : j = id
    · subst hj
      exact ⟨.normal, a1, w1, by simpa [Exit.inBlock] using hq, .head step_block (har k (by simp [exitTo]))⟩
    · refine ⟨.exit j, a1, w1, by simpa [Exit.inBlock, hj] using hq, fun k' hk => .head step_block (har k' ?_)⟩
      simp [exitTo, hk, Ne.symm hj]
  | .goto l, hq, har => exact ⟨.goto l, a1, w1, hq, fun k' hk => .head step_block (har k' (by simp [gotoIn, hk]))⟩
  | .ret, hq, har => exact ⟨.ret, a1, w1, hq, .of_steps (.one step_block) har⟩
  | .panic ch, hq, har => exact ⟨.panic ch, a1, w1, hq, .of_steps (.one step_block) har⟩
  | .outgrown, hq, har => exact ⟨.outgrown, a1, w1, hq, .of_steps (b := b) (k := k) (cs := cs) (e := .outgrown) (.one step_block) har⟩

theorem wpL_step (h : wpN P c (Exit.then (wpL P c Q) Q) a w) : wpL P c Q a w := fun b hb k cs => by
  obtain ⟨e, a1, w1, hq, har⟩ := h b hb (.inLoop c :: k) cs
  by_cases he : e = .normal
  · subst he
    obtain ⟨e2, a2, w2, hq2, har2⟩ := hq b hb k cs
    exact ⟨e2, a2, w2, hq2, .of_steps (Steps.trans har (.one step_inLoop)) har2⟩
  · exact ⟨e, a1, w1, then_other he hq, Arrives.pass (x := .inLoop c) rfl (fun _ _ => .inl he) har⟩

theorem wpN_loop (h : wpL P c Q a w) : wpN P (.loop c) Q a w := fun b hb k cs => by
  obtain ⟨e, a1, w1, hq, har⟩ := h b hb k cs
  exact ⟨e, a1, w1, hq, .of_steps (.one step_loop) har⟩

/-- it comes to an end by 'return', the answer in slot s -/
def retPost (s : Nat) (R : Ending → World → Prop) : Exit → Act → World → Prop :=
  fun e a w => e = .ret ∧ a.defers = [] ∧ R (.returned (a.tmps.getD s undef)) w

theorem calls_of_wpN {f : FuncId} {fn : Func} {s : Nat} {args : Array Value} {R : Ending → World → Prop} (hf : P.funcs[f]? = some fn) (hb : fn.body = some c) (hr : fn.results = #[.tmp s])
    (h : wpN P c (retPost s R) { tmps := args ++ Array.replicate (fn.ntmps - args.size) undef, defers := [] } w) : Calls P f args w R := fun cs => by
  obtain ⟨e, a', w', ⟨rfl, hd, hR⟩, todo, hs⟩ := h { (default : Frame) with fn := f, kind := .normal } rfl [] cs
  rw [show ({ (default : Frame) with fn := f, kind := .normal } : Frame).at { tmps := args ++ Array.replicate (fn.ntmps - args.size) undef, defers := [] } [.code c] = Frame.enter P f args .normal by simp [Frame.enter, Frame.at, hf, hb]] at hs
  exact ⟨.returned _, w', _, hR, hs, rfl, rfl, hd, rfl, fn, hf, results_tmp hr _ _ _⟩

/-- a select of which one case, a receive from a shut channel, can proceed -/
theorem wpN_select {id k ch cap s r : Nat} {tm : Bool} {z : Value} {ops : Array Oper} {o : Oper} {cases : Array CommCase} {rest : List Nat} (hl : List.range ops.size = 0 :: rest) (ho : ops[0]? = some o) (hw : Region.wanted o (yielded ops a.tmps) = true)
    (hr : (execOp a.eval o).run P w = .ok (.comm cases true .select) w) (hk : cases[k]? = some (rcase ch z)) (hno : ∀ (m : Nat) (c' : CommCase), m ≠ k → cases[m]? = some c' → NoWay w c')
    (hc : w.heap[ch]? = some (.chan cap #[] true s r tm)) (h : wpOps P ops Q rest (a.put o.dst (commResult cases .select k z false)) w) : wpN P (.region id ops false) Q a w := fun b hb kk cs => by
  obtain ⟨e, a', w', hq, har⟩ := wp_ops rest _ _ h b kk cs
  refine ⟨e, a', w', hq, .of_steps (.head step_region (.one ?_)) har⟩
  rw [hl]
  have h1 := step_lone_sel_recv_shut (P := P) (stepG_comm (main := true) (b := b) (a := a) (k := kk) (cs := cs) (rest := rest) ho hw (by rw [hb]; simp) hr) hk hno hc
  rw [Frame.finish_at, ho] at h1
  exact h1
end
end Go.Proofs.YbulkckvkDoor
