import Derived.Test.YbulkckvkDoorWn
namespace Go.Proofs.YbulkckvkDoor
open Go.RowKit Go.Conc
set_option linter.unusedVariables false

/-- the select's operation in 'await' -/
abbrev selO (pos : String) : Oper := { dst := some 40, op := Op.select #[{ chan := Operand.tmp 37, send := none, elem := 36 }, { chan := Operand.tmp 39, send := none, elem := 36 }] true, type := 0, pos := pos, after := #[], guard := none }

abbrev rc (x : Option Nat) : CommCase := { chan := .chan x, send := none, zero := .agg #[] }

theorem zero36 (w : World) : (zeroValue 36).run Ybad.prog w = .ok (.agg #[]) w := by kernel_rfl

theorem exec_sel (pos : String) (a : Act) (x y : Option Nat) (h1 : a.eval (.tmp 37) = .chan x) (h2 : a.eval (.tmp 39) = .chan y) (w : World) :
    (execOp a.eval (selO pos)).run Ybad.prog w = .ok (.comm #[rc x, rc y] true .select) w := by
  have hz := zero36 w
  simp [execOp, h1, h2, hz]
theorem res0 (x y : Option Nat) : commResult #[rc x, rc y] .select ((0 : Nat) : Int) (.agg #[]) false = .tuple #[.int .i64 0, .bool false, .agg #[], .agg #[]] := by
  simp [commResult, List.zipIdx_cons, goInt]
theorem res1 (x y : Option Nat) : commResult #[rc x, rc y] .select ((1 : Nat) : Int) (.agg #[]) false = .tuple #[.int .i64 1, .bool false, .agg #[], .agg #[]] := by
  simp [commResult, List.zipIdx_cons, goInt]
theorem only0 (w : World) (x : Option Nat) : ∀ (m : Nat) (c' : CommCase), m ≠ 0 → (#[rc x, rc none] : Array CommCase)[m]? = some c' → NoWay w c' := by
  intro m c' hm hc
  match m, hm, hc with
  | 1, _, hc =>
    obtain rfl : rc none = c' := by simpa using hc
    exact noWay_nil none
  | m + 2, _, hc => simp at hc
theorem only1 {w : World} {c cap s r : Nat} {tm : Bool} (h : w.heap[c]? = some (.chan cap #[] false s r tm)) (y : Option Nat) : ∀ (m : Nat) (c' : CommCase), m ≠ 1 → (#[rc (some c), rc y] : Array CommCase)[m]? = some c' → NoWay w c' := by
  intro m c' hm hc
  match m, hm, hc with
  | 0, _, hc =>
    obtain rfl : rc (some c) = c' := by simpa using hc
    exact noWay_recv h
  | m + 2, _, hc => simp at hc

section
variable {P : Program} {Q : Exit → Act → World → Prop} {a : Act} {w : World} {y : Code}
/-- the select's region: the operations behind it by the walk -/
theorem wpN_sel {id k ch cap s r : Nat} {tm : Bool} {z v : Value} {o : Oper} {l : List Oper} {cases : Array CommCase} (hw : Region.wanted o (yielded (o :: l).toArray a.tmps) = true)
    (hr : (execOp a.eval o).run P w = .ok (.comm cases true .select) w) (hk : cases[k]? = some (rcase ch z)) (hno : ∀ (m : Nat) (c' : CommCase), m ≠ k → cases[m]? = some c' → NoWay w c')
    (hc : w.heap[ch]? = some (.chan cap #[] true s r tm)) (hv : commResult cases .select (k : Int) z false = v)
    (h : ∀ K : Act → World → Prop, (∀ a w, wpN P y Q a w → K a w) → wpList P (o :: l).toArray (Exit.then K Q) l (a.put o.dst v) w) : wpN P (.seq (.region id (o :: l).toArray false) y) Q a w := by
  subst hv
  refine wpN_seqN (wpN_select (rest := List.range' 1 l.length) (by simp [List.range_eq_range', List.range'_succ]) rfl hw hr hk hno hc ?_)
  rw [wpOps_eq_wpList l 1 (fun j => by simp [Nat.add_comm 1 j])]
  exact h _ fun _ _ h => h
end
end Go.Proofs.YbulkckvkDoor
