import Derived.Test.YbulkckvkDoorAw
import Derived.LaidEql
namespace Go.Proofs.YbulkckvkDoor
open Go.RowKit Go.Conc
set_option linter.unusedVariables false

set_option maxRecDepth 100000 in
/-- the zero node's cells -/
theorem zero67 : ∃ Z : Array Value, (∀ w : World, (zeroValue 67).run Ybad.prog w = .ok (.agg Z) w) ∧ Z.size = 72 ∧ Z[59]? = some (.int .i32 0) :=
  ⟨((Ybad.prog.info? 67).bind (·.zero)).elim #[] Value.cells, fun _ => by kernel_rfl, by kernel_rfl, by kernel_rfl⟩

set_option maxRecDepth 100000 in
/-- 'errors.New' -/
theorem new_calls (s : ByteArray) (w : World) : Calls Ybad.prog 4 #[.string s] w fun e w' => e = .returned (.iface 78 (.pointer (some ⟨w.heap.size, 0, none⟩))) ∧ w' = w.alloc (.cells #[.string s] 80) := by
  go_enter Ybad.func4, Ybad.ntmps4
  go_wp2
  go_ret
  exact ⟨rfl, rfl⟩

theorem same_err (w : World) (a : Addr) : (binOp .eql 69 (.iface 78 (.pointer (some a))) (.iface 78 (.pointer (some a)))).run Ybad.prog w = .ok (.bool true) w := by
  obtain ⟨i, hi, hc⟩ := Option.map_eq_some_iff.1 (show (Ybad.prog.info? 78).map (·.comparable) = some true by kernel_rfl)
  obtain ⟨j, hj, _⟩ := Option.map_eq_some_iff.1 (show (Ybad.prog.info? 80).map (·.comparable) = some true by kernel_rfl)
  exact run_eql_iface_ptr_same w a Ybad.underlying69 Ybad.underlying78 hi hc hj

theorem alloc_heap (w : World) (o : Obj) : (w.alloc o).heap = w.heap.push o := rfl

/-- what the law has made ahead of the variable 'calls' -/
structure Pre (w W : World) (k m : Int) (cl0 : Bool) (Z : Array Value) (fin : Value) : Prop where
  b0 : W.heap[w.heap.size]? = some (.cells #[.int .i64 k] 3)
  b1 : W.heap[(w.heap.size + 1)]? = some (.cells #[.int .i64 m] 3)
  b3 : W.heap[(w.heap.size + 1 + 1 + 1)]? = some (.cells ((Z.setIfInBounds 61 (.chan (some (w.heap.size + 1 + 1)))).setIfInBounds 62 (.bool cl0)) 67)
  b4 : W.heap[(w.heap.size + 1 + 1 + 1 + 1)]? = some (.cells #[.pointer (some ⟨(w.heap.size + 1 + 1 + 1), 0, none⟩)] 23)
  b6 : W.heap[(w.heap.size + 1 + 1 + 1 + 1 + 1 + 1)]? = some (.cells #[.int .i64 k, .int .i64 0, .int .i64 0, .iface 78 (.pointer (some ⟨(w.heap.size + 1 + 1 + 1 + 1 + 1), 0, none⟩)), fin] 73)
  sz : w.heap.size + 7 ≤ W.heap.size
  bl : Below w.heap.size w W

theorem pre_new (w : World) (k m : Int) (cl0 : Bool) (Z : Array Value) : Pre w (((((((w.alloc (.cells #[.int .i64 k] 3)).alloc (.cells #[.int .i64 m] 3)).alloc (.chan 0 #[] false 0 0 false)).alloc (.cells ((Z.setIfInBounds 61 (.chan (some (w.heap.size + 1 + 1)))).setIfInBounds 62 (.bool cl0)) 67)).alloc (.cells #[.pointer (some ⟨(w.heap.size + 1 + 1 + 1), 0, none⟩)] 23)).alloc (.cells #[.string ⟨#[122, 122]⟩] 80)).alloc (.cells #[.int .i64 k, .int .i64 0, .int .i64 0, .iface 78 (.pointer (some ⟨(w.heap.size + 1 + 1 + 1 + 1 + 1), 0, none⟩)), .chan none] 73)) k m cl0 Z (.chan none) := by
  refine ⟨?_, ?_, ?_, ?_, ?_, ?_, ?_⟩
  · simp only [alloc_heap, Array.getElem?_push, Array.size_push]; repeat (first | rw [if_pos trivial] | rw [if_neg (by omega)])
  · simp only [alloc_heap, Array.getElem?_push, Array.size_push]; repeat (first | rw [if_pos trivial] | rw [if_neg (by omega)])
  · simp only [alloc_heap, Array.getElem?_push, Array.size_push]; repeat (first | rw [if_pos trivial] | rw [if_neg (by omega)])
  · simp only [alloc_heap, Array.getElem?_push, Array.size_push]; repeat (first | rw [if_pos trivial] | rw [if_neg (by omega)])
  · simp only [alloc_heap, Array.getElem?_push, Array.size_push]; repeat (first | rw [if_pos trivial] | rw [if_neg (by omega)])
  · simp only [alloc_heap, Array.size_push]; omega
  · refine ⟨rfl, rfl, rfl, by simp only [alloc_heap, Array.size_push]; omega, fun j hj => ?_⟩
    simp only [alloc_heap, Array.getElem?_push, Array.size_push]
    repeat rw [if_neg (by omega)]

/-- the world with 'calls' meets the loop's conditions -/
theorem Pre.env {w W : World} {k m : Int} {cl0 : Bool} {Z : Array Value} {fin gv : Value} (h : Pre w W k m cl0 Z fin) (hZs : Z.size = 72) (hZ59 : Z[59]? = some (.int .i32 0)) (hw0 : 0 < w.heap.size) (hg : w.cell? ⟨0, 0, none⟩ = some gv)
    (hfin : ∀ f, fin = .chan (some f) → (w.heap.size + 1 + 1 + 1 + 1 + 1 + 1) < f ∧ f < W.heap.size ∧ W.heap[f]? = some (.chan 0 #[] true 0 0 false)) :
    Env (W.alloc (.cells #[.int .i64 0] 3)) w.heap.size (w.heap.size + 1) (w.heap.size + 1 + 1 + 1) (w.heap.size + 1 + 1 + 1 + 1) (w.heap.size + 1 + 1 + 1 + 1 + 1 + 1) W.heap.size k m 0 0 0 0 cl0 (.chan (some (w.heap.size + 1 + 1))) (.iface 78 (.pointer (some ⟨(w.heap.size + 1 + 1 + 1 + 1 + 1), 0, none⟩))) fin gv := by
  have hs := h.sz
  have old : ∀ {b : Nat} {ob : Obj}, W.heap[b]? = some ob → (W.alloc (.cells #[.int .i64 0] 3)).heap[b]? = some ob := fun {b ob} hb => by
    have hlt : b < W.heap.size := (Array.getElem?_eq_some_iff.1 hb).1
    rw [Below.heap_alloc _ _ _ hlt]; exact hb
  have cell : ∀ {b j : Nat} {cs : Array Value} {t : TypeId} {v : Value}, W.heap[b]? = some (.cells cs t) → cs[j]? = some v → (W.alloc (.cells #[.int .i64 0] 3)).cell? ⟨b, j, none⟩ = some v := fun {b j cs t v} hb hv => by
    simp [World.cell?, old hb, hv]
  have frz : ∀ {b j : Nat} {cs : Array Value} {t : TypeId}, W.heap[b]? = some (.cells cs t) → (W.alloc (.cells #[.int .i64 0] 3)).frozen? ⟨b, j, none⟩ = false := fun {b j cs t} hb => by
    simp [World.frozen?, old hb]
  have n59 : ((Z.setIfInBounds 61 (.chan (some (w.heap.size + 1 + 1)))).setIfInBounds 62 (.bool cl0))[59]? = some (.int .i32 0) := by
    rw [Array.getElem?_setIfInBounds_ne (by decide), Array.getElem?_setIfInBounds_ne (by decide)]; exact hZ59
  have n61 : ((Z.setIfInBounds 61 (.chan (some (w.heap.size + 1 + 1)))).setIfInBounds 62 (.bool cl0))[61]? = some (.chan (some (w.heap.size + 1 + 1))) := by
    rw [Array.getElem?_setIfInBounds_ne (by decide), Array.getElem?_setIfInBounds_self_of_lt (by omega)]
  have n62 : ((Z.setIfInBounds 61 (.chan (some (w.heap.size + 1 + 1)))).setIfInBounds 62 (.bool cl0))[62]? = some (.bool cl0) := by
    rw [Array.getElem?_setIfInBounds_self_of_lt (by simp; omega)]
  have hnew : (W.alloc (.cells #[.int .i64 0] 3)).heap[W.heap.size]? = some (.cells #[.int .i64 0] 3) := heap_alloc_new W _
  have hgl : (W.alloc (.cells #[.int .i64 0] 3)).cell? ⟨0, 0, none⟩ = some gv := by
    rw [(h.bl.alloc (by omega) _).cell (p := ⟨0, 0, none⟩) hw0]; exact hg
  exact ⟨hgl, cell h.b0 rfl, cell h.b1 rfl, cell h.b4 rfl, cell h.b3 n59, cell h.b3 n61, cell h.b3 n62, cell h.b6 rfl, cell h.b6 rfl, cell h.b6 rfl, cell h.b6 rfl, cell h.b6 rfl, by simp only [World.cell?, hnew]; rfl, frz h.b3, frz h.b3, frz h.b3, frz h.b6, frz h.b6, by simp only [World.frozen?, hnew]; rfl,
    fun f e => ⟨(hfin f e).1, (hfin f e).2.1, old (hfin f e).2.2⟩, hw0, by omega, by omega, by omega, by omega, by omega, by simp only [alloc_heap, Array.size_push]; omega⟩

/-- with the context's channel laid -/
theorem Pre.fin {w W W1 : World} {k m : Int} {cl0 : Bool} {Z : Array Value} {f : Nat} (h : Pre w W k m cl0 Z (.chan none)) (hb : Below W.heap.size W W1) :
    Pre w (W1.setCell ⟨(w.heap.size + 1 + 1 + 1 + 1 + 1 + 1), 4, none⟩ (.chan (some f))) k m cl0 Z (.chan (some f)) := by
  have hs := h.sz
  have b6 := (hb.block (w.heap.size + 1 + 1 + 1 + 1 + 1 + 1) (by omega)).trans h.b6
  have o : ∀ b, b < W.heap.size → b ≠ (w.heap.size + 1 + 1 + 1 + 1 + 1 + 1) → (W1.setCell ⟨(w.heap.size + 1 + 1 + 1 + 1 + 1 + 1), 4, none⟩ (.chan (some f))).heap[b]? = W.heap[b]? := fun b hl hn => (Below.heap_setCell _ _ _ _ hn).trans (hb.block b hl)
  refine ⟨(o _ (by omega) (by omega)).trans h.b0, (o _ (by omega) (by omega)).trans h.b1, (o _ (by omega) (by omega)).trans h.b3, (o _ (by omega) (by omega)).trans h.b4, ?_, by rw [size_setCell]; exact Nat.le_trans hs hb.size, (h.bl.trans (hb.mono (by omega))).setCell (by show w.heap.size ≤ (w.heap.size + 1 + 1 + 1 + 1 + 1 + 1); omega) _⟩
  rw [heap_setCell_same _ _ _ _ _ _ b6]
  simp

end Go.Proofs.YbulkckvkDoor
