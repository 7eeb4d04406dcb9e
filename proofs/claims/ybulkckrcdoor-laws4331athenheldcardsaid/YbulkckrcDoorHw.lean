import Derived.Test.YbulkckrcDoorNx
namespace Go.Proofs.YbulkckrcDoor
open Go.RowKit
set_option linter.unusedVariables false

/-- the subscription made behind the topic: what skip asks -/
theorem pre_new {w w1 : World} {S t a : Nat} {seed : Int} (h : Built w w1 S t a seed) (A : Array Value) (next : Int) (c6 : A[6]? = some (.pointer (some ⟨w.heap.size + 2 + S, 0, none⟩))) (c1 : A[1]? = some (.int .u64 next))
    (c2 : ∃ v, A[2]? = some v) (c3 : ∃ v, A[3]? = some v) (c7 : ∃ v, A[7]? = some v) (c8 : ∃ v, A[8]? = some v) :
    Pre (w1.alloc (.cells A 70)) w.heap.size S t a (w.heap.size + 2 + S) w1.heap.size seed next := by
  have hsz := h.size
  have at_ : ∀ i, (w1.alloc (.cells A 70)).cell? ⟨w1.heap.size, i, none⟩ = A[i]? := fun i => World.cell?_alloc_at _ _ _ _ rfl
  have past : ∀ b i, b < w1.heap.size → (w1.alloc (.cells A 70)).cell? ⟨b, i, none⟩ = w1.cell? ⟨b, i, none⟩ := fun b i hb => World.cell?_alloc_past _ _ _ hb
  refine ⟨h.toRing.keep fun b _ hb => Below.heap_alloc _ _ _ (by omega), (past _ _ (by omega)).trans h.topic0, (past _ _ (by omega)).trans h.tail, (at_ 6).trans c6, (at_ 1).trans c1, ?_, ?_, ?_, ?_, fun o => World.frozen?_alloc_at _ _ _ _ rfl, Nat.le_refl _, by omega, by simp⟩
  · obtain ⟨v, hv⟩ := c2; exact ⟨v, (at_ 2).trans hv⟩
  · obtain ⟨v, hv⟩ := c3; exact ⟨v, (at_ 3).trans hv⟩
  · obtain ⟨v, hv⟩ := c7; exact ⟨v, (at_ 7).trans hv⟩
  · obtain ⟨v, hv⟩ := c8; exact ⟨v, (at_ 8).trans hv⟩

/-- the cells of the subscription that the law makes -/
theorem sub_cells (Z : Array Value) (hs : Z.size = 131) (r p n : Value) : ∃ A : Array Value, A = ((Z.setIfInBounds 0 r).setIfInBounds 6 p).setIfInBounds 1 n ∧
    A[0]? = some r ∧ A[1]? = some n ∧ A[2]? = Z[2]? ∧ A[3]? = Z[3]? ∧ A[4]? = Z[4]? ∧ A[5]? = Z[5]? ∧ A[6]? = some p ∧ A[7]? = Z[7]? ∧ A[8]? = Z[8]? := by
  refine ⟨_, rfl, ?_, ?_, ?_, ?_, ?_, ?_, ?_, ?_, ?_⟩
  · rw [set_other _ _ _ _ (by decide), set_other _ _ _ _ (by decide), set_same _ _ _ (by omega)]
  · rw [set_same _ _ _ (by simp; omega)]
  · rw [set_other _ _ _ _ (by decide), set_other _ _ _ _ (by decide), set_other _ _ _ _ (by decide)]
  · rw [set_other _ _ _ _ (by decide), set_other _ _ _ _ (by decide), set_other _ _ _ _ (by decide)]
  · rw [set_other _ _ _ _ (by decide), set_other _ _ _ _ (by decide), set_other _ _ _ _ (by decide)]
  · rw [set_other _ _ _ _ (by decide), set_other _ _ _ _ (by decide), set_other _ _ _ _ (by decide)]
  · rw [set_other _ _ _ _ (by decide), set_same _ _ _ (by simp; omega)]
  · rw [set_other _ _ _ _ (by decide), set_other _ _ _ _ (by decide), set_other _ _ _ _ (by decide)]
  · rw [set_other _ _ _ _ (by decide), set_other _ _ _ _ (by decide), set_other _ _ _ _ (by decide)]

set_option maxRecDepth 100000 in
set_option maxHeartbeats 800000 in
theorem held_law (sz tb dd from_ seed : Int) (w : World) (h0 : 0 ≤ sz) (h1 : sz ≤ 65535) (h2 : 0 ≤ tb) (h3 : tb ≤ 4294967295) (h4 : 0 ≤ dd) (h5 : dd ≤ 65535) :
    Calls Ybad.prog 3 #[.int .u16 sz, .int .u32 tb, .int .u16 dd, .int .u64 from_, .int .i64 seed] w fun e w' => e = .returned (.bool true) ∧ Below w.heap.size w w' := by
  obtain ⟨Z, hZ, hZs, z0, z2, z3, z7, z8, z74, z4, z5⟩ := zero71
  have HBd := build_any sz tb dd seed w h0 h1 h2 h3 h4 h5
  have HZ : Hid (Z[2]? = some (.int .i64 0) ∧ Z[3]? = some (.int .i64 0) ∧ Z[7]? = some (.int .u64 0) ∧ Z[8]? = some (.pointer none) ∧ Z[4]? = some (.int .u64 0) ∧ Z[5]? = some (.int .u32 0)) := ⟨z2, z3, z7, z8, z4, z5⟩
  clear z0 z2 z3 z7 z8 z74 z4 z5 h0 h1 h2 h3 h4 h5
  have hni : ∀ w : World, (binOp .neq 72 .nilIface .nilIface).run Ybad.prog w = .ok (.bool false) w := fun w => run_neq_nil_nil w 72 (by kernel_rfl)
  have hZn : ¬ Z = #[] := by intro h; rw [h] at hZs; simp at hZs
  go_enter Ybad.func3, Ybad.ntmps3
  go_wp2_with fail
  refine HBd.mono ?_
  rintro e w1 ⟨S, t, a, hS1, hS2, hSt, hta, ha, rfl, hB⟩
  have HB : Hid (Built w w1 S t a seed) := hB
  have t0 := hB.topic0
  clear HBd hB
  go_wp2_with fail
  obtain ⟨A, hAe, A0, A1, A2, A3, A4, A5, A6, A7, A8⟩ := sub_cells Z hZs (.slice (some ⟨w.heap.size, 0, none⟩) S S) (.pointer (some ⟨w.heap.size + 2 + S, 0, none⟩)) (.int .u64 from_)
  rw [← hAe]
  have hP := pre_new HB.out A from_ A6 A1 ⟨_, A2.trans HZ.out.1⟩ ⟨_, A3.trans HZ.out.2.1⟩ ⟨_, A7.trans HZ.out.2.2.1⟩ ⟨_, A8.trans HZ.out.2.2.2.1⟩
  have HA : Hid (A[0]? = some (.slice (some ⟨w.heap.size, 0, none⟩) S S) ∧ A[4]? = some (.int .u64 0) ∧ A[5]? = some (.int .u32 0) ∧ A[6]? = some (.pointer (some ⟨w.heap.size + 2 + S, 0, none⟩))) := ⟨A0, A4.trans HZ.out.2.2.2.2.1, A5.trans HZ.out.2.2.2.2.2, A6⟩
  clear hAe A0 A1 A2 A3 A4 A5 A6 A7 A8 HZ hZ hZs hZn
  refine (skip_any _ S t a _ _ seed from_ _ hP hS1 hS2 hSt hta ha).mono ?_
  rintro e w3 ⟨rfl, hSk⟩
  have hsz := HB.out.size
  have hbel : Below w.heap.size w w3 := (HB.out.below.alloc (by omega) _).trans (hSk.below.mono (by omega))
  have at_ : ∀ i, i ≠ 1 → i ≠ 2 → i ≠ 3 → i ≠ 7 → i ≠ 8 → w3.cell? ⟨w1.heap.size, i, none⟩ = A[i]? := fun i i1 i2 i3 i7 i8 => (hSk.other i i1 i2 i3 i7 i8).trans (World.cell?_alloc_at _ _ _ _ rfl)
  obtain ⟨q, hq, hqS⟩ : ∃ q : Nat, a % S = q ∧ q < S := ⟨_, rfl, Nat.mod_lt _ (by omega)⟩
  have hao : ((a - S : Nat) : Int) = (a : Int) - (S : Int) := by omega
  have hSb : Sb w3 w1.heap.size w.heap.size S (w.heap.size + 2 + S) ((a - S : Nat) : Int) (q : Int) (q : Int) ((a - S : Nat) : Int) (.pointer (some ⟨w.heap.size + 2 + q, 0, none⟩)) := by
    obtain ⟨x1, x2, s1, s2, s3, s7, s8, x3, x4, lag⟩ := hSk
    rw [hq] at s2 s3 s8
    rw [hao]
    exact ⟨(at_ 0 (by decide) (by decide) (by decide) (by decide) (by decide)).trans HA.out.1, s1, s2, s3, (at_ 4 (by decide) (by decide) (by decide) (by decide) (by decide)).trans HA.out.2.1, (at_ 5 (by decide) (by decide) (by decide) (by decide) (by decide)).trans HA.out.2.2.1, (at_ 6 (by decide) (by decide) (by decide) (by decide) (by decide)).trans HA.out.2.2.2, s7, s8, x4⟩
  have hRing : Ring w3 w.heap.size S S a seed := HB.out.toRing.keep fun b _ hb => (hSk.below.block b (by omega)).trans (Below.heap_alloc _ _ _ (by omega))
  have hmsg := hRing.msg q hqS
  have hnum : Pl.num a S q = a - S := by rw [← hq]; exact Pl.num_end a S hS1 (by omega)
  rw [hnum] at hmsg
  have hneed : w3.cell? ⟨w.heap.size + 2 + S, 128, none⟩ = some (.int .u64 0) := (hSk.below.cell (p := ⟨w.heap.size + 2 + S, 128, none⟩) (by show w.heap.size + 2 + S < w1.heap.size; omega)).trans ((World.cell?_alloc_past _ _ _ (by omega)).trans HB.out.needed)
  have HN := next_any w1.heap.size w.heap.size S (w.heap.size + 2 + S) (a - S) q (w.heap.size + 2 + q) (q : Int) _ w3 hSb hmsg hneed hS2 hqS (by omega) (by omega) (by omega)
  have hq1 : ((a : Int) - (S : Int)) % (S : Int) = (q : Int) := by
    have := Pl.sub_mod a S (by omega)
    rw [← hao, ← Int.natCast_emod, this, hq]
  have HBl : Hid (Below w.heap.size w w3 ∧ w.heap.size ≤ w1.heap.size) := ⟨hbel, by omega⟩
  have hSa : (S : Int) ≤ (a : Int) := by omega
  rw [hao] at HN
  clear HA hP t0 HB hbel at_ hSb hRing hmsg hnum hneed hSk hq hao hsz
  generalize w1.heap.size = sb at HN HBl ⊢
  go_wp2_with fail
  refine HN.mono ?_
  rintro e w4 ⟨rfl, hb4, p, hs4⟩
  have HB4 : Hid (Below w.heap.size w w4) := HBl.out.1.trans (hb4.mono HBl.out.2)
  obtain ⟨c0, c1, c2, c3, c4, c5, c6, c7, c8, fz⟩ := hs4
  clear fz c0 c2 c3 c4 c5 c6 c7 HN hb4 HBl
  go_wp2
  go_ret
  exact ⟨by simp, HB4.out⟩

end Go.Proofs.YbulkckrcDoor
