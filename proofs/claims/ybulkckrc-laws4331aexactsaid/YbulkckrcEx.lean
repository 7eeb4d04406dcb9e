import Derived.Test.YbulkckrcSk
namespace Go.Proofs.Ybulkckrc
open Go.RowKit
set_option linter.unusedVariables false

theorem below_drewN' {B q : Nat} {w w' : World} (h : Below B w w') : Below B w (w'.drewN q) := ⟨h.os, h.tape, h.output, h.size, h.block⟩

/-- the subscription made behind the topic: what skip asks -/
theorem pre_new {w w1 : World} {S t a : Nat} {seed : Int} (h : Built w w1 S t a seed) (A : Array Value) (next : Int) (c6 : A[6]? = some (.pointer (some ⟨w.heap.size + 2 + S, 0, none⟩))) (c1 : A[1]? = some (.int .u64 next))
    (c2 : ∃ v, A[2]? = some v) (c3 : ∃ v, A[3]? = some v) (c7 : ∃ v, A[7]? = some v) (c8 : ∃ v, A[8]? = some v) :
    Pre (w1.alloc (.cells A 71)) w.heap.size S t a (w.heap.size + 2 + S) w1.heap.size seed next := by
  have hsz := h.size
  have at_ : ∀ i, (w1.alloc (.cells A 71)).cell? ⟨w1.heap.size, i, none⟩ = A[i]? := fun i => World.cell?_alloc_at _ _ _ _ rfl
  have past : ∀ b i, b < w1.heap.size → (w1.alloc (.cells A 71)).cell? ⟨b, i, none⟩ = w1.cell? ⟨b, i, none⟩ := fun b i hb => World.cell?_alloc_past _ _ _ hb
  refine ⟨h.toRing.keep fun b _ hb => Below.heap_alloc _ _ _ (by omega), (past _ _ (by omega)).trans h.topic0, (past _ _ (by omega)).trans h.tail, (at_ 6).trans c6, (at_ 1).trans c1, ?_, ?_, ?_, ?_, fun o => World.frozen?_alloc_at _ _ _ _ rfl, Nat.le_refl _, by omega, by simp⟩
  · obtain ⟨v, hv⟩ := c2; exact ⟨v, (at_ 2).trans hv⟩
  · obtain ⟨v, hv⟩ := c3; exact ⟨v, (at_ 3).trans hv⟩
  · obtain ⟨v, hv⟩ := c7; exact ⟨v, (at_ 7).trans hv⟩
  · obtain ⟨v, hv⟩ := c8; exact ⟨v, (at_ 8).trans hv⟩

/-- the cells of the subscription that the law makes -/
theorem sub_cells (Z : Array Value) (hs : Z.size = 131) (r p n q : Value) : ∃ A : Array Value, A = (((Z.setIfInBounds 0 r).setIfInBounds 6 p).setIfInBounds 1 n).setIfInBounds 4 q ∧
    A[0]? = some r ∧ A[1]? = some n ∧ A[2]? = Z[2]? ∧ A[3]? = Z[3]? ∧ A[4]? = some q ∧ A[5]? = Z[5]? ∧ A[6]? = some p ∧ A[7]? = Z[7]? ∧ A[8]? = Z[8]? := by
  refine ⟨_, rfl, ?_, ?_, ?_, ?_, ?_, ?_, ?_, ?_, ?_⟩
  · rw [set_other _ _ _ _ (by decide), set_other _ _ _ _ (by decide), set_other _ _ _ _ (by decide), set_same _ _ _ (by omega)]
  · rw [set_other _ _ _ _ (by decide), set_same _ _ _ (by simp; omega)]
  · rw [set_other _ _ _ _ (by decide), set_other _ _ _ _ (by decide), set_other _ _ _ _ (by decide), set_other _ _ _ _ (by decide)]
  · rw [set_other _ _ _ _ (by decide), set_other _ _ _ _ (by decide), set_other _ _ _ _ (by decide), set_other _ _ _ _ (by decide)]
  · rw [set_same _ _ _ (by simp; omega)]
  · rw [set_other _ _ _ _ (by decide), set_other _ _ _ _ (by decide), set_other _ _ _ _ (by decide), set_other _ _ _ _ (by decide)]
  · rw [set_other _ _ _ _ (by decide), set_other _ _ _ _ (by decide), set_same _ _ _ (by simp; omega)]
  · rw [set_other _ _ _ _ (by decide), set_other _ _ _ _ (by decide), set_other _ _ _ _ (by decide), set_other _ _ _ _ (by decide)]
  · rw [set_other _ _ _ _ (by decide), set_other _ _ _ _ (by decide), set_other _ _ _ _ (by decide), set_other _ _ _ _ (by decide)]

set_option maxRecDepth 100000 in
theorem assert75 (a : Addr) (w : World) : (Instr.typeAssert (.iface 75 (.pointer (some a))) 73 75 true).run Yba.prog w = .ok (.tuple #[.pointer (some a), .bool true]) w := by kernel_rfl

set_option maxRecDepth 100000 in
set_option maxHeartbeats 800000 in
theorem exact_law (sz tb dd from_ seed rep : Int) (w : World) (h0 : 0 ≤ sz) (h1 : sz ≤ 65535) (h2 : 0 ≤ tb) (h3 : tb ≤ 4294967295) (h4 : 0 ≤ dd) (h5 : dd ≤ 65535) :
    Calls Yba.prog 3 #[.int .u16 sz, .int .u32 tb, .int .u16 dd, .int .u64 from_, .int .i64 seed, .int .u64 rep] w fun e w' => e = .returned (.bool true) ∧ Below w.heap.size w w' := by
  obtain ⟨Z, hZ, hZs, z0, z2, z3, z7, z8, z74⟩ := zero71
  have HBd := build_any sz tb dd seed w h0 h1 h2 h3 h4 h5
  have HZ : Hid (Z[2]? = some (.int .i64 0) ∧ Z[3]? = some (.int .i64 0) ∧ Z[7]? = some (.int .u64 0) ∧ Z[8]? = some (.pointer none)) := ⟨z2, z3, z7, z8⟩
  clear z0 z2 z3 z7 z8 z74 h0 h1 h2 h3 h4 h5
  have hnq := neq65
  have has := assert75
  have hZn : ¬ Z = #[] := by intro h; rw [h] at hZs; simp at hZs
  go_enter Yba.func3, Yba.ntmps3
  go_wp2_with fail
  refine HBd.mono ?_
  rintro e w1 ⟨S, t, a, hS1, hS2, hSt, hta, ha, rfl, hB⟩
  have HB : Hid (Built w w1 S t a seed) := hB
  have t0 := hB.topic0
  have t71 := hB.tail
  clear HBd hB
  go_wp2_with fail
  refine (u64_load _ _ _ _ t71).mono ?_
  rintro e w2 ⟨rfl, hw⟩
  obtain rfl : w1 = w2 := hw.symm
  clear hw
  go_wp2_with fail
  obtain ⟨A, hAe, A0, A1, A2, A3, A4, A5, A6, A7, A8⟩ := sub_cells Z hZs (.slice (some ⟨w.heap.size, 0, none⟩) S S) (.pointer (some ⟨w.heap.size + 2 + S, 0, none⟩)) (.int .u64 from_) (.int .u64 rep)
  rw [← hAe]
  have hP := pre_new HB.out A from_ A6 A1 ⟨_, A2.trans HZ.out.1⟩ ⟨_, A3.trans HZ.out.2.1⟩ ⟨_, A7.trans HZ.out.2.2.1⟩ ⟨_, A8.trans HZ.out.2.2.2⟩
  have HA : Hid (A[4]? = some (.int .u64 rep) ∧ Pre (w1.alloc (.cells A 71)) w.heap.size S t a (w.heap.size + 2 + S) w1.heap.size seed from_) := ⟨A4, hP⟩
  clear hAe A0 A1 A2 A3 A4 A5 A6 A7 A8 HZ hZ hZs hZn
  refine (skip_any _ S t a _ _ seed from_ _ hP hS1 hS2 hSt hta ha).mono ?_
  rintro e w3 ⟨rfl, hSk⟩
  have hsz := HB.out.size
  have hbel : Below w.heap.size w w3 := (HB.out.below.alloc (by omega) _).trans (hSk.below.mono (by omega))
  have old : ∀ b o, b < w1.heap.size → w3.cell? ⟨b, o, none⟩ = w1.cell? ⟨b, o, none⟩ := fun b o hb => (hSk.below.cell (p := ⟨b, o, none⟩) hb).trans (World.cell?_alloc_past _ _ _ hb)
  have k0 := (old (w.heap.size + 2 + S) 0 (by omega)).trans t0
  have k71 := (old (w.heap.size + 2 + S) 71 (by omega)).trans t71
  have k4 : w3.cell? ⟨w1.heap.size, 4, none⟩ = some (.int .u64 rep) := (hSk.other 4 (by decide) (by decide) (by decide) (by decide) (by decide)).trans ((World.cell?_alloc_at _ _ _ _ rfl).trans HA.out.1)
  have hRing : Ring w3 w.heap.size S S a seed := HB.out.toRing.keep fun b _ hb => (hSk.below.block b (by omega)).trans (Below.heap_alloc _ _ _ (by omega))
  have HH : Hid (Below w.heap.size w w3 ∧ Ring w3 w.heap.size S S a seed) := ⟨hbel, hRing⟩
  obtain ⟨x1, x2, s1, s2, s3, s7, s8, x3, x4, lag⟩ := hSk
  clear x1 x2 x3 x4
  obtain ⟨q, hq, hqS⟩ : ∃ q : Nat, a % S = q ∧ q < S := ⟨_, rfl, Nat.mod_lt _ (by omega)⟩
  have hq1 : ((a : Int) - (S : Int)) % (S : Int) = (q : Int) := by
    have := Pl.sub_mod a S (by omega)
    rw [show ((a : Int) - (S : Int)) = ((a - S : Nat) : Int) from by omega, ← Int.natCast_emod, this, hq]
  rw [hq] at s2 s3 s8
  have km := hRing.msgs q hqS
  generalize (w1.alloc (.cells A 71)).heap.size = lb at lag ⊢
  generalize w1.heap.size = sb at s1 s2 s3 s7 s8 k4 ⊢
  have hq3 : (q : Int) < (S : Int) := by omega
  have hSa : (S : Int) ≤ (a : Int) := by omega
  clear HA hP t0 t71 HB hsz hbel old hRing hq
  go_wp2_with fail
  go_quiet (fail)
  go_wp2_with fail
  refine (u64_load (w.heap.size + 2 + S) 71 t (w3.drewN nq) k71).mono ?_
  rintro e w4 ⟨rfl, hw⟩
  have k0' : w4.cell? ⟨w.heap.size + 2 + S, 0, none⟩ = some (.slice (some ⟨w.heap.size, 0, none⟩) S S) := by rw [hw]; exact k0
  have HR : Hid (Ring w4 w.heap.size S S a seed ∧ Below w.heap.size w w4) := by
    rw [hw]
    exact ⟨HH.out.2.keep fun b _ _ => rfl, below_drewN' HH.out.1⟩
  clear hw k0 k71 s1 s2 s3 s7 s8 k4 km lag HH
  go_wp2_with fail
  go_loopg [24] S (fun gk kv wr => ∃ k : Nat, k ≤ S ∧ gk = S - k ∧ kv = .int .u64 k ∧ ∃ n, wr = w4.drewN n)
  case atStart => exact ⟨0, by omega, rfl, rfl, 0, rfl⟩
  case round =>
    obtain ⟨k, hkS, rfl, rfl, qq, hwr⟩ := hrel
    have HW : Hid (wr = w4.drewN qq) := hwr
    have k0r : wr.cell? ⟨w.heap.size + 2 + S, 0, none⟩ = some (.slice (some ⟨w.heap.size, 0, none⟩) S S) := by rw [hwr]; exact k0'
    have HRr : Hid (Ring wr w.heap.size S S a seed) := by rw [hwr]; exact HR.out.1.keep fun b _ _ => rfl
    clear hwr
    by_cases hlt : k < S
    · have hk0 : (k : Int) < (S : Int) := by omega
      have hmsg := HRr.out.msg k hlt
      have hrc := HRr.out.ring k hlt
      have hmc := HRr.out.msgs k hlt
      have HL : Hid (∀ n : Nat, Calls Yba.prog 9 #[.pointer (some ⟨w.heap.size, k, none⟩)] (wr.drewN n) fun e w' => e = .returned (.pointer (some ⟨w.heap.size + 2 + k, 0, none⟩)) ∧ w' = wr.drewN n) := fun n => p_load _ k _ _ _ (wr.drewN n) hrc hmsg
      clear hmsg hrc
      go_wp2_with fail
      go_quiet ((go_at_call 9; exact Calls.quiet_of_same (HL.out _)))
      go_wp2
      go_roundg (S - (k + 1))
      case measure => omega
      case rel => exact ⟨k + 1, by omega, rfl, by go_num, qq + _, by rw [HW.out, World.drewN_drewN]⟩
    · have hk0 : decide ((k : Int) < (S : Int)) = false := decide_eq_false (by omega)
      go_wp2
      go_ret
      exact ⟨rfl, by rw [HW.out]; exact below_drewN' HR.out.2⟩

end Go.Proofs.Ybulkckrc
