import Derived.Test.YbulkckrcDoorPt
import Derived.Test.YbulkckrcDoorPl
namespace Go.Proofs.YbulkckrcDoor
open Go.RowKit
set_option linter.unusedVariables false

theorem info81 : (Ybad.prog.info? 81).map (fun i => (i.zero, i.size, i.bytes)) = some (some (.agg #[.pointer none]), 1, 8) := by kernel_rfl
theorem info65 : (Ybad.prog.info? 64).map (fun i => (i.zero, i.size, i.bytes)) = some (some (.pointer none), 1, 8) := by kernel_rfl

theorem make_ring (n : Nat) (hn : n ≤ 300) : ∃ C : Array Value, C.size = n ∧ ∀ w : World, (Instr.makeSlice 29 (.int .u64 (n : Int)) (.int .u64 (n : Int))).run Ybad.prog w = .ok (.slice (some ⟨w.heap.size, 0, none⟩) n n) (w.alloc (.cells C 81)) := by
  obtain ⟨i, hi, hz, hs, hb⟩ := info_parts info81
  refine ⟨madeCells (Value.agg #[.pointer none]).cells n, size_madeCells _ _, fun w => ?_⟩
  have := run_make (P := Ybad.prog) w 29 81 i (.agg #[.pointer none]) Ybad.underlying29 hi hz .u64 .u64 (n : Int) (n : Int) (by omega) (by omega) (by rw [hb]; omega) (by omega)
  simpa [hs] using this

theorem make_msgs (n : Nat) (hn : n ≤ 300) : ∃ C : Array Value, C.size = n ∧ ∀ w : World, (Instr.makeSlice 26 (.int .u64 (n : Int)) (.int .u64 (n : Int))).run Ybad.prog w = .ok (.slice (some ⟨w.heap.size, 0, none⟩) n n) (w.alloc (.cells C 64)) := by
  obtain ⟨i, hi, hz, hs, hb⟩ := info_parts info65
  refine ⟨madeCells (Value.pointer none).cells n, size_madeCells _ _, fun w => ?_⟩
  have := run_make (P := Ybad.prog) w 26 64 i (.pointer none) Ybad.underlying26 hi hz .u64 .u64 (n : Int) (n : Int) (by omega) (by omega) (by rw [hb]; omega) (by omega)
  simpa [hs] using this

/-- The ring that is filled, its blocks from g on: the slots in block g, the list of messages in block g + 1, message j in block g + 2 + j. -/
structure Ring (wr : World) (g S k a : Nat) (seed : Int) : Prop where
  ring : ∀ j, j < k → wr.cell? ⟨g, j, none⟩ = some (.pointer (some ⟨g + 2 + j, 0, none⟩))
  msgs : ∀ j, j < k → wr.cell? ⟨g + 1, j, none⟩ = some (.pointer (some ⟨g + 2 + j, 0, none⟩))
  msg : ∀ j, j < k → Msg wr (g + 2 + j) (Pl.num a S j : Nat) (wrap64 (seed + (j : Nat)))

structure Fill (w wr : World) (S k a : Nat) (seed : Int) : Prop extends Ring wr w.heap.size S k a seed where
  below : Below w.heap.size w wr
  size : wr.heap.size = w.heap.size + 2 + k
  rcell : ∀ j, j < S → ∃ v, wr.cell? ⟨w.heap.size, j, none⟩ = some v
  mcell : ∀ j, j < S → ∃ v, wr.cell? ⟨w.heap.size + 1, j, none⟩ = some v
  rfz : ∀ j, wr.frozen? ⟨w.heap.size, j, none⟩ = false
  mfz : ∀ j, wr.frozen? ⟨w.heap.size + 1, j, none⟩ = false

theorem Fill.new (w : World) (S a : Nat) (seed : Int) (C C' : Array Value) (hC : C.size = S) (hC' : C'.size = S) (t t' : TypeId) : Fill w ((w.alloc (.cells C t)).alloc (.cells C' t')) S 0 a seed := by
  have hsz : (w.alloc (.cells C t)).heap.size = w.heap.size + 1 := by simp
  refine ⟨⟨fun j hj => absurd hj (by omega), fun j hj => absurd hj (by omega), fun j hj => absurd hj (by omega)⟩, ((Below.refl _ _).alloc (Nat.le_refl _) _).alloc (by simp) _, by simp, fun j hj => ?_, fun j hj => ?_, fun j => ?_, fun j => ?_⟩
  · rw [World.cell?_alloc_past _ _ _ (by omega), World.cell?_alloc_at _ _ _ _ rfl]
    exact ⟨C[j], Array.getElem?_eq_getElem (by omega)⟩
  · rw [World.cell?_alloc_at _ _ _ _ hsz.symm]
    exact ⟨C'[j], Array.getElem?_eq_getElem (by omega)⟩
  · rw [World.frozen?_alloc_past _ _ _ (by omega), World.frozen?_alloc_at _ _ _ _ rfl]
  · rw [World.frozen?_alloc_at _ _ _ _ hsz.symm]

theorem heap_setCell_ne (w : World) (a : Addr) (v : Value) (b : Nat) (h : b ≠ a.block) : (w.setCell a v).heap[b]? = w.heap[b]? := Below.heap_setCell w a v b h

/-- one round -/
theorem Fill.step {w wr : World} {S k a : Nat} {seed : Int} (h : Fill w wr S k a seed) (hk : k < S) (n v : Int) (hn : n = (Pl.num a S k : Nat)) (hv : v = wrap64 (seed + (k : Nat))) :
    Fill w (((wr.alloc (.cells #[.int .u64 n, .int .i64 v] 78)).setCell ⟨w.heap.size + 1, k, none⟩ (.pointer (some ⟨wr.heap.size, 0, none⟩))).setCell ⟨w.heap.size, k, none⟩ (.pointer (some ⟨wr.heap.size, 0, none⟩))) S (k + 1) a seed := by
  subst hn; subst hv
  have hsz := h.size
  obtain ⟨rv, hrv⟩ := h.rcell k hk
  obtain ⟨mv, hmv⟩ := h.mcell k hk
  generalize hO : wr.alloc (.cells #[.int .u64 (Pl.num a S k : Nat), .int .i64 (wrap64 (seed + (k : Nat)))] 78) = wo
  have co : ∀ b o, b < wr.heap.size → wo.cell? ⟨b, o, none⟩ = wr.cell? ⟨b, o, none⟩ := fun b o hb => by rw [← hO]; exact World.cell?_alloc_past _ _ _ hb
  have fo : ∀ b o, b < wr.heap.size → wo.frozen? ⟨b, o, none⟩ = wr.frozen? ⟨b, o, none⟩ := fun b o hb => by rw [← hO]; exact World.frozen?_alloc_past _ _ _ hb
  have ho : ∀ b, b < wr.heap.size → wo.heap[b]? = wr.heap[b]? := fun b hb => by rw [← hO]; exact Below.heap_alloc _ _ _ hb
  have hnew : wo.heap[wr.heap.size]? = some (.cells #[.int .u64 (Pl.num a S k : Nat), .int .i64 (wrap64 (seed + (k : Nat)))] 78 (0, 0)) := by
    rw [← hO]
    show (wr.heap.push _)[wr.heap.size]? = _
    simp
  have hso : wo.heap.size = wr.heap.size + 1 := by rw [← hO]; simp
  have hbo : Below w.heap.size w wo := by rw [← hO]; exact h.below.alloc (by omega) _
  refine ⟨⟨fun j hj => ?_, fun j hj => ?_, fun j hj => ?_⟩, (hbo.setCell (by show w.heap.size ≤ w.heap.size + 1; omega) _).setCell (Nat.le_refl _) _, by simp [World.setCell, hso]; omega, fun j hj => ?_, fun j hj => ?_, fun j => ?_, fun j => ?_⟩
  · by_cases e : j = k
    · subst e
      rw [World.cell?_setCell_same _ _ _ (u := rv) ((World.cell?_setCell_other _ _ _ _ (by simp)).trans ((co _ _ (by omega)).trans hrv)), hsz]
    · rw [World.cell?_setCell_other _ _ _ _ (by simp), World.cell?_setCell_other _ _ _ _ (by simp), co _ _ (by omega)]
      exact h.ring j (by omega)
  · by_cases e : j = k
    · subst e
      rw [World.cell?_setCell_other _ _ _ _ (by simp), World.cell?_setCell_same _ _ _ (u := mv) ((co _ _ (by omega)).trans hmv), hsz]
    · rw [World.cell?_setCell_other _ _ _ _ (by simp), World.cell?_setCell_other _ _ _ _ (by simp), co _ _ (by omega)]
      exact h.msgs j (by omega)
  · unfold Msg
    rw [heap_setCell_ne _ _ _ _ (by show w.heap.size + 2 + j ≠ w.heap.size; omega), heap_setCell_ne _ _ _ _ (by show w.heap.size + 2 + j ≠ w.heap.size + 1; omega)]
    by_cases e : j = k
    · subst e
      rw [← hsz]
      exact hnew
    · rw [ho _ (by omega)]
      exact h.msg j (by omega)
  · by_cases e : j = k
    · subst e
      exact ⟨_, World.cell?_setCell_same _ _ _ (u := rv) ((World.cell?_setCell_other _ _ _ _ (by simp)).trans ((co _ _ (by omega)).trans hrv))⟩
    · rw [World.cell?_setCell_other _ _ _ _ (by simp), World.cell?_setCell_other _ _ _ _ (by simp), co _ _ (by omega)]
      exact h.rcell j hj
  · by_cases e : j = k
    · subst e
      rw [World.cell?_setCell_other _ _ _ _ (by simp)]
      exact ⟨_, World.cell?_setCell_same _ _ _ (u := mv) ((co _ _ (by omega)).trans hmv)⟩
    · rw [World.cell?_setCell_other _ _ _ _ (by simp), World.cell?_setCell_other _ _ _ _ (by simp), co _ _ (by omega)]
      exact h.mcell j hj
  · simp [fo _ j (show w.heap.size < wr.heap.size by omega), h.rfz j]
  · simp [fo _ j (show w.heap.size + 1 < wr.heap.size by omega), h.mfz j]

/-- the ring stands in a world whose blocks up to its own end are the same -/
theorem Ring.keep {wr w1 : World} {g S k a : Nat} {seed : Int} (h : Ring wr g S k a seed) (hk : ∀ b, g ≤ b → b < g + 2 + k → w1.heap[b]? = wr.heap[b]?) : Ring w1 g S k a seed := by
  refine ⟨fun j hj => ?_, fun j hj => ?_, fun j hj => ?_⟩
  · rw [World.cell?_of_block (w := wr) (hk g (Nat.le_refl _) (by omega))]; exact h.ring j hj
  · rw [World.cell?_of_block (w := wr) (hk (g + 1) (by omega) (by omega))]; exact h.msgs j hj
  · unfold Msg
    rw [hk (g + 2 + j) (by omega) (by omega)]; exact h.msg j hj

theorem Ring.later {wr : World} {g S k a : Nat} {seed : Int} {o : Obj} {b i : Nat} {v : Value} (h : Ring wr g S k a seed) (hs : g + 2 + k ≤ wr.heap.size) (hb : g + 2 + k ≤ b) : Ring ((wr.alloc o).setCell ⟨b, i, none⟩ v) g S k a seed :=
  h.keep fun c _ h2 => by rw [heap_setCell_ne _ _ _ _ (by show c ≠ b; omega), Below.heap_alloc _ _ _ (by omega)]

/-- one round, as the walk spells it -/
theorem Fill.step' {w wr : World} {S k a : Nat} {seed : Int} (h : Fill w wr S k a seed) (hk : k < S) (n v : Int) (hn : n = (Pl.num a S k : Nat)) (hv : v = wrap64 (seed + (k : Nat))) :
    Fill w (((wr.setCell ⟨w.heap.size + 1, k, none⟩ (.pointer (some ⟨wr.heap.size, 0, none⟩))).alloc (.cells #[.int .u64 n, .int .i64 v] 78)).setCell ⟨w.heap.size, k, none⟩ (.pointer (some ⟨wr.heap.size, 0, none⟩))) S (k + 1) a seed := by
  rw [← World.setCell_alloc_past (w := wr) _ _ _ _ (by have := h.size; omega)]
  exact h.step hk n v hn hv

/-- the message that has just been made -/
theorem msg_new {w wr : World} {k : Nat} {n v : Int} (p : Value) : Msg ((wr.setCell ⟨w.heap.size + 1, k, none⟩ p).alloc (.cells #[.int .u64 n, .int .i64 v] 78)) wr.heap.size n v := by
  unfold Msg
  show ((wr.setCell ⟨w.heap.size + 1, k, none⟩ p).heap.push _)[wr.heap.size]? = _
  have : (wr.setCell ⟨w.heap.size + 1, k, none⟩ p).heap.size = wr.heap.size := by simp [World.setCell]
  rw [Array.getElem?_push, if_pos this.symm]

end Go.Proofs.YbulkckrcDoor
