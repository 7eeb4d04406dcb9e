import Derived.Test.YbulkckqaDoorBw
namespace Go.Proofs.YbulkckqaDoor
open Go.RowKit
set_option linter.unusedVariables false

set_option maxRecDepth 100000 in
set_option maxHeartbeats 400000 in
theorem spacey_long (sa : Option Addr) (n c : Nat) (x : Int) (w : World) (hn : 1024 < n) (hm : n ≤ maxLen) :
    Calls Ybad.prog 5 #[.slice sa n c, .int .u64 x] w fun e w' => e = .returned (.bool true) ∧ Below w.heap.size w w' := by
  unfold maxLen at hm
  have t0 : (1024 : Int) < (n : Int) := by omega
  go_enter Ybad.func5, Ybad.ntmps5
  go_wp2
  go_ret
  exact ⟨rfl, Below.refl _ _⟩

/-- the row that is filled: it is there, not frozen, its first cells are the bytes ys -/
structure Fill (w wr : World) (n : Nat) (ys : List Int) : Prop where
  below : Below w.heap.size w wr
  size : wr.heap.size = w.heap.size + 1
  done : ∀ j, j < ys.length → wr.cell? ⟨w.heap.size, j, none⟩ = some (.int .u8 (ys.getD j 0))
  cells : ∀ j, j < n → ∃ v, wr.cell? ⟨w.heap.size, j, none⟩ = some v
  fz : ∀ j, wr.frozen? ⟨w.heap.size, j, none⟩ = false

theorem Fill.store {w wr : World} {n : Nat} {ys : List Int} (h : Fill w wr n ys) (k : Nat) (hk : ys.length = k) (hlt : k < n) (z : Int) : Fill w (wr.setCell ⟨w.heap.size, k, none⟩ (.int .u8 z)) n (ys ++ [z]) := by
  subst hk
  obtain ⟨v, hv⟩ := h.cells _ hlt
  refine ⟨h.below.setCell (Nat.le_refl _) _, (size_setCell _ _ _).trans h.size, fun j hj => ?_, fun j hj => ?_, fun j => by simp [h.fz j]⟩
  · by_cases e : j = ys.length
    · subst e
      rw [World.cell?_setCell_same _ _ _ hv]
      simp [List.getD]
    · have hj' : j < ys.length := by simp at hj; omega
      rw [World.cell?_setCell_other _ _ _ _ (by simp), h.done j hj']
      simp [List.getD, List.getElem?_append_left hj']
  · by_cases e : j = ys.length
    · subst e
      exact ⟨_, World.cell?_setCell_same _ _ _ hv⟩
    · rw [World.cell?_setCell_other _ _ _ _ (by simp)]
      exact h.cells j hj

theorem Fill.src {w wr : World} {n : Nat} {ys : List Int} (h : Fill w wr n ys) (hy : ys.length = n) : Src wr (some ⟨w.heap.size, 0, none⟩) n n ys :=
  ⟨hy, .inr ⟨_, rfl, .inr ⟨rfl, fun j hj => by rw [Nat.zero_add]; exact h.done j (by omega)⟩⟩⟩

set_option maxRecDepth 100000 in
set_option maxHeartbeats 400000 in
theorem spacey_any (b off : Nat) (n c : Nat) (x : Int) (a : Addr) (w : World) (hn : n ≤ 1024) (zs : List Int) (hby : ∀ j, j < n → 0 ≤ zs.getD j 0 ∧ zs.getD j 0 ≤ 255) (hcl : ∀ j, j < n → w.cell? ⟨b, off + j, none⟩ = some (.int .u8 (zs.getD j 0))) (hx0 : 0 ≤ x) (hx1 : x < 18446744073709551616)
    (hc : w.cell? ⟨0, 0, none⟩ = some (.iface 93 (.pointer (some a)))) :
    Calls Ybad.prog 5 #[.slice (some ⟨b, off, none⟩) n c, .int .u64 x] w fun e w' => e = .returned (.bool true) ∧ Below w.heap.size w w' := by
  obtain ⟨C, hC, hmk⟩ := make_bytes n hn
  have hpos := lt_of_cell' hc
  have HS : Hid ((∀ j, j < n → 0 ≤ zs.getD j 0 ∧ zs.getD j 0 ≤ 255) ∧ (∀ j, j < n → w.cell? ⟨b, off + j, none⟩ = some (.int .u8 (zs.getD j 0)))) := ⟨hby, hcl⟩
  clear hby hcl
  have HF : Hid (Fill w (w.alloc (.cells C 5)) n []) := by
    refine ⟨(Below.refl _ _).alloc (Nat.le_refl _) _, by simp, fun j hj => absurd hj (by simp), fun j hj => ?_, fun j => World.frozen?_alloc_at _ _ _ _ rfl⟩
    rw [World.cell?_alloc_at _ _ _ _ rfl]
    exact ⟨C[j], Array.getElem?_eq_getElem (by omega)⟩
  clear hC
  go_enter Ybad.func5, Ybad.ntmps5
  go_wp2
  go_loopg [6] n (fun gk j wr => ∃ k : Nat, k ≤ n ∧ gk = n - k ∧ j = .int .i64 k ∧ ∃ ys : List Int, ys.length = k ∧ Fill w wr n ys)
  case atStart => exact ⟨0, by omega, rfl, rfl, [], rfl, HF.out⟩
  case round =>
    obtain ⟨k, hkn, rfl, rfl, ys, hys, hf⟩ := hrel
    have HFr : Hid (ys.length = k ∧ Fill w wr n ys) := ⟨hys, hf⟩
    clear hys
    by_cases hlt : k < n
    · have hsrc := HS.out.2 k hlt
      have hck := (hf.below.cell (p := ⟨b, off + k, none⟩) (lt_of_cell' hsrc)).trans hsrc
      obtain ⟨v, hv⟩ := hf.cells k hlt
      have hfz := hf.fz k
      have hz := HS.out.1 k hlt
      have hk0 : (k : Int) < (n : Int) := by omega
      clear hf HF hmk hsrc
      generalize zs.getD k 0 = z at hck hz
      obtain ⟨hz0, hz1⟩ := hz
      go_wp2
      go_roundg (n - (k + 1))
      case measure => omega
      case rel => exact ⟨k + 1, by omega, rfl, by go_num, _, by simp [HFr.out.1], HFr.out.2.store k HFr.out.1 hlt _⟩
    · have hck := (hf.below.cell (p := ⟨0, 0, none⟩) hpos).trans hc
      obtain ⟨i, hi, hi2⟩ := idx_of x n 2 hn (by omega) hx0 (by omega)
      rw [show ((2 : Nat) : Int) = 2 from rfl] at hi
      have hce := check_any (some ⟨w.heap.size, 0, none⟩) n n ys i 0 false a wr (hf.src (by have := HFr.out.1; omega)) hn hi2 hck
      have HI : Hid (wrap64 (x % ((n : Int) + 2)) = (i : Int)) := hi
      clear hf HF hmk hck hi
      go_wp2_with fail
      rw [HI.out]
      refine hce.mono ?_
      rintro e w1 ⟨rfl, hb⟩
      have HB : Hid (Below wr.heap.size wr w1) := hb
      clear hb hce
      go_wp2
      go_ret
      exact ⟨rfl, HFr.out.2.below.trans (HB.out.mono (by have := HFr.out.2.size; omega))⟩

set_option maxRecDepth 100000 in
set_option maxHeartbeats 400000 in
theorem spacey_zero (sa : Option Addr) (n c : Nat) (x : Int) (a : Addr) (w : World) (hn : n ≤ 1024) (h0 : n ≤ 0) (hx0 : 0 ≤ x) (hx1 : x < 18446744073709551616)
    (hc : w.cell? ⟨0, 0, none⟩ = some (.iface 93 (.pointer (some a)))) :
    Calls Ybad.prog 5 #[.slice sa n c, .int .u64 x] w fun e w' => e = .returned (.bool true) ∧ Below w.heap.size w w' := by
  obtain ⟨C, hC, hmk⟩ := make_bytes n hn
  have hpos := lt_of_cell' hc
  have HS : Hid True := trivial
  have HF : Hid (Fill w (w.alloc (.cells C 5)) n []) := by
    refine ⟨(Below.refl _ _).alloc (Nat.le_refl _) _, by simp, fun j hj => absurd hj (by simp), fun j hj => ?_, fun j => World.frozen?_alloc_at _ _ _ _ rfl⟩
    rw [World.cell?_alloc_at _ _ _ _ rfl]
    exact ⟨C[j], Array.getElem?_eq_getElem (by omega)⟩
  clear hC
  go_enter Ybad.func5, Ybad.ntmps5
  go_wp2
  go_loopg [6] n (fun gk j wr => ∃ k : Nat, k ≤ n ∧ gk = n - k ∧ j = .int .i64 k ∧ ∃ ys : List Int, ys.length = k ∧ Fill w wr n ys)
  case atStart => exact ⟨0, by omega, rfl, rfl, [], rfl, HF.out⟩
  case round =>
    obtain ⟨k, hkn, rfl, rfl, ys, hys, hf⟩ := hrel
    have HFr : Hid (ys.length = k ∧ Fill w wr n ys) := ⟨hys, hf⟩
    clear hys
    by_cases hlt : k < n
    · exfalso
      omega
    · have hck := (hf.below.cell (p := ⟨0, 0, none⟩) hpos).trans hc
      obtain ⟨i, hi, hi2⟩ := idx_of x n 2 hn (by omega) hx0 (by omega)
      rw [show ((2 : Nat) : Int) = 2 from rfl] at hi
      have hce := check_any (some ⟨w.heap.size, 0, none⟩) n n ys i 0 false a wr (hf.src (by have := HFr.out.1; omega)) hn hi2 hck
      have HI : Hid (wrap64 (x % ((n : Int) + 2)) = (i : Int)) := hi
      clear hf HF hmk hck hi
      go_wp2_with fail
      rw [HI.out]
      refine hce.mono ?_
      rintro e w1 ⟨rfl, hb⟩
      have HB : Hid (Below wr.heap.size wr w1) := hb
      clear hb hce
      go_wp2
      go_ret
      exact ⟨rfl, HFr.out.2.below.trans (HB.out.mono (by have := HFr.out.2.size; omega))⟩

end Go.Proofs.YbulkckqaDoor
