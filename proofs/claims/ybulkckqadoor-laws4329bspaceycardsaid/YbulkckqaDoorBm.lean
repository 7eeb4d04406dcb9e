import Derived.Test.YbulkckqaDoorBe
namespace Go.Proofs.YbulkckqaDoor
open Go.RowKit
set_option linter.unusedVariables false
set_option maxRecDepth 100000

/-- A slice of bytes that was there: its bytes are zs. -/
def Src (w : World) (sa : Option Addr) (n c : Nat) (zs : List Int) : Prop :=
  zs.length = n ∧ ((sa = none ∧ n = 0 ∧ c = 0) ∨ ∃ x : Addr, sa = some x ∧ (n = 0 ∨ (x = ⟨x.block, x.off, none⟩ ∧ ∀ j, j < n → w.cell? ⟨x.block, x.off + j, none⟩ = some (.int .u8 (zs.getD j 0)))))

theorem addP (b o j : Nat) : (⟨b, o, none⟩ : Addr).add j = ⟨b, o + j, none⟩ := by unfold Addr.add; split <;> simp_all

theorem convert_zero (w : World) (p : Option Addr) (c : Nat) : (convert 22 9 (.slice p 0 c)).run Ybad.prog w = .ok (.string ByteArray.empty) w := by
  rw [run_convert_bytes_string w 22 9 5 _ 0 c Ybad.underlying22 Ybad.underlying5 Ybad.underlying9]
  cases p <;> simp [Conv.bytesToString, loadCells]
  all_goals rfl

theorem Src.convert {w : World} {sa : Option Addr} {n c : Nat} {zs : List Int} (h : Src w sa n c zs) : (Go.convert 22 9 (.slice sa n c)).run Ybad.prog w = .ok (.string (strOfNums zs)) w := by
  obtain ⟨hl, h | ⟨x, rfl, h | ⟨hx, hc⟩⟩⟩ := h
  · obtain ⟨rfl, rfl, rfl⟩ := h
    obtain rfl : zs = [] := List.eq_nil_of_length_eq_zero hl
    exact convert_zero w _ _
  · subst h
    obtain rfl : zs = [] := List.eq_nil_of_length_eq_zero hl
    exact convert_zero w _ _
  · rw [hx]
    exact run_convert_bytes_arg (P := Ybad.prog) w 22 5 Ybad.underlying22 Ybad.underlying5 x.block x.off n c zs hl hc 9 Ybad.underlying9

theorem Src.later {w w' : World} {sa : Option Addr} {n c : Nat} {zs : List Int} (h : Src w sa n c zs) (hb : Below w.heap.size w w') : Src w' sa n c zs := by
  obtain ⟨hl, h | ⟨x, rfl, h | ⟨hx, hc⟩⟩⟩ := h
  · exact ⟨hl, .inl h⟩
  · exact ⟨hl, .inr ⟨x, rfl, .inl h⟩⟩
  · refine ⟨hl, .inr ⟨x, rfl, .inr ⟨hx, fun j hj => ?_⟩⟩⟩
    have h0 := hc j hj
    have hlt : x.block < w.heap.size := by
      rcases Nat.lt_or_ge x.block w.heap.size with h' | h'
      · exact h'
      · simp [World.cell?, Array.getElem?_eq_none h'] at h0
    exact (hb.cell (p := ⟨x.block, x.off + j, none⟩) hlt).trans h0

theorem info5 : (Ybad.prog.info? 5).map (fun i => (i.zero, i.size, i.bytes)) = some (some (.int .u8 0), 1, 1) := by kernel_rfl

/-- 'make([]byte, n)' -/
theorem make_bytes (n : Nat) (hn : n ≤ 1024) : ∃ C : Array Value, C.size = n ∧ ∀ w : World, (Instr.makeSlice 22 (.int .i64 (n : Int)) (.int .i64 (n : Int))).run Ybad.prog w = .ok (.slice (some ⟨w.heap.size, 0, none⟩) n n) (w.alloc (.cells C 5)) := by
  obtain ⟨i, hi, hz, hs, hb⟩ := info_parts info5
  refine ⟨madeCells (Value.int .u8 0).cells n, size_madeCells _ _, fun w => ?_⟩
  have := run_make (P := Ybad.prog) w 22 5 i (.int .u8 0) Ybad.underlying22 hi hz .i64 .i64 (n : Int) (n : Int) (by omega) (by omega) (by rw [hb]; omega) (by omega)
  simpa [hs] using this

/-- the copy of a slice that was there into a new row of its length -/
theorem copy_in {w : World} {sa : Option Addr} {n c : Nat} {zs : List Int} (h : Src w sa n c zs) (C : Array Value) (hC : C.size = n) :
    ∃ W2 : World, (∀ ty, (Builtin.copy_ #[22, 22] ty #[.slice (some ⟨w.heap.size, 0, none⟩) n n, .slice sa n c]).run Ybad.prog (w.alloc (.cells C 5)) = .ok (goInt n) W2) ∧
      Below w.heap.size w W2 ∧ W2.heap.size = w.heap.size + 1 ∧ (∀ j, j < n → W2.cell? ⟨w.heap.size, j, none⟩ = some (.int .u8 (zs.getD j 0))) := by
  obtain ⟨i, hi, hz, hs, hb⟩ := info_parts info5
  have hnew : (w.alloc (.cells C 5)).heap[w.heap.size]? = some (.cells C 5 (0, 0)) := by
    show (w.heap.push _)[w.heap.size]? = _
    simp
  have hlater : Src (w.alloc (.cells C 5)) sa n c zs := h.later ((Below.refl _ _).alloc (Nat.le_refl _) _)
  have key : ∀ (a : Addr), (∀ j, j < n → (w.alloc (.cells C 5)).cell? (a.add j) = some (.int .u8 (zs.getD j 0))) → zs.length = n → ∃ W2 : World, (∀ ty, (Builtin.copy_ #[22, 22] ty #[.slice (some ⟨w.heap.size, 0, none⟩) n n, .slice (some a) n c]).run Ybad.prog (w.alloc (.cells C 5)) = .ok (goInt n) W2) ∧
      Below w.heap.size w W2 ∧ W2.heap.size = w.heap.size + 1 ∧ (∀ j, j < n → W2.cell? ⟨w.heap.size, j, none⟩ = some (.int .u8 (zs.getD j 0))) := by
    intro a ha hl
    have hcs : (zs.map (Value.int .u8)).length = n := by simpa using hl
    refine ⟨(w.alloc (.cells C 5)).setRow w.heap.size (zs.map (Value.int .u8)).toArray, fun ty => ?_, ?_, ?_, ?_⟩
    · have := run_copy_row Ybad.prog (w.alloc (.cells C 5)) 22 22 ty 5 w.heap.size 0 n n a n c C 5 (zs.map (Value.int .u8)) Ybad.underlying22 (by simp [hi, hs]) hnew (by simpa using hcs) (fun j v hj => ?_) (by omega) (fun v hv => by
        obtain ⟨z, _, rfl⟩ := List.mem_map.1 hv
        rfl)
      · rw [this, hcs]
        congr 2
        have e : (C.toList.drop (0 + n)) = [] := List.drop_eq_nil_of_le (by simp; omega)
        rw [e]; simp
      · have hjl : j < zs.length := by
          rcases Nat.lt_or_ge j zs.length with h | h
          · exact h
          · simp [List.getElem?_eq_none (show (zs.map (Value.int .u8)).length ≤ j by simpa using h)] at hj
        rw [ha j (by omega)]
        simp [List.getElem?_eq_getElem hjl] at hj
        subst hj
        simp [List.getD, List.getElem?_eq_getElem hjl]
    · refine ((Below.refl w.heap.size w).alloc (Nat.le_refl _) (.cells C 5)).trans ⟨rfl, rfl, rfl, by simp [World.setRow], fun k hk => ?_⟩
      simp only [World.setRow, Array.getElem?_modify]
      rw [if_neg (by omega)]
    · simp [World.setRow]
    · intro j hj
      have hh := setRow_heap (w.alloc (.cells C 5)) w.heap.size C (zs.map (Value.int .u8)).toArray 5 (0, 0) hnew
      unfold World.cell?
      rw [show (⟨w.heap.size, j, none⟩ : Addr).block = w.heap.size from rfl, hh]
      simp [List.getElem?_eq_getElem (show j < zs.length by omega), List.getD]
  obtain ⟨hl, h' | ⟨x, rfl, h' | ⟨hx, hc⟩⟩⟩ := hlater
  · obtain ⟨rfl, rfl, rfl⟩ := h'
    refine ⟨w.alloc (.cells C 5), fun ty => ?_, (Below.refl _ _).alloc (Nat.le_refl _) _, by simp, fun j hj => absurd hj (by omega)⟩
    exact run_copy_nil Ybad.prog _ 22 22 ty 5 _ 0 0 Ybad.underlying22 (by simp [hi])
  · subst h'
    exact key x (fun j hj => absurd hj (by omega)) hl
  · rw [hx]
    refine key _ (fun j hj => ?_) hl
    rw [addP]
    exact hc j hj

end Go.Proofs.YbulkckqaDoor
