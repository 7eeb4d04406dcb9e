import Derived.Test.YbulkckrcDoorBl
namespace Go.Proofs.YbulkckrcDoor
open Go.RowKit
set_option linter.unusedVariables false

/-- the numbers that build reckons -/
theorem nums (sz tb dd : Int) (h0 : 0 ≤ sz) (h1 : sz ≤ 65535) (h2 : 0 ≤ tb) (h3 : tb ≤ 4294967295) (h4 : 0 ≤ dd) (h5 : dd ≤ 65535) :
    ∃ S t a : Nat, 1 + sz % 300 = (S : Int) ∧ tb + (S : Int) = (t : Int) ∧ IntKind.u64.wrap ((t : Int) + dd % (3 * (S : Int))) = (a : Int) ∧ 1 ≤ S ∧ S ≤ 300 ∧ S ≤ t ∧ t ≤ a ∧ a ≤ 5000000000 := by
  refine ⟨(1 + sz % 300).toNat, (tb + (1 + sz % 300)).toNat, ((tb + (1 + sz % 300)) + dd % (3 * (1 + sz % 300))).toNat, ?_⟩
  have e1 : ((1 + sz % 300).toNat : Int) = 1 + sz % 300 := by omega
  have e2 : ((tb + (1 + sz % 300)).toNat : Int) = tb + (1 + sz % 300) := by omega
  have h6 : 0 < 3 * (1 + sz % 300) := by omega
  have h7 := Int.emod_nonneg dd (show 3 * (1 + sz % 300) ≠ 0 by omega)
  have h8 := Int.emod_lt_of_pos dd h6
  rw [e1, e2]
  generalize hy : dd % (3 * (1 + sz % 300)) = y at h7 h8
  have hw : IntKind.u64.wrap (tb + (1 + sz % 300) + y) = tb + (1 + sz % 300) + y := by
    simp only [IntKind.wrap_u64]; omega
  rw [hw]
  refine ⟨rfl, rfl, by omega, by omega, by omega, by omega, by omega, by omega⟩

/-- the topic and its ring, as build leaves them -/
structure Built (w w' : World) (S t a : Nat) (seed : Int) : Prop extends Ring w' w.heap.size S S a seed where
  below : Below w.heap.size w w'
  size : w'.heap.size = w.heap.size + 2 + S + 1
  topic0 : w'.cell? ⟨w.heap.size + 2 + S, 0, none⟩ = some (.slice (some ⟨w.heap.size, 0, none⟩) S S)
  tail : w'.cell? ⟨w.heap.size + 2 + S, 71, none⟩ = some (.int .u64 t)
  needed : w'.cell? ⟨w.heap.size + 2 + S, 128, none⟩ = some (.int .u64 0)

set_option maxRecDepth 100000 in
set_option maxHeartbeats 800000 in
theorem build_any (sz tb dd seed : Int) (w : World) (h0 : 0 ≤ sz) (h1 : sz ≤ 65535) (h2 : 0 ≤ tb) (h3 : tb ≤ 4294967295) (h4 : 0 ≤ dd) (h5 : dd ≤ 65535) :
    Calls Ybad.prog 4 #[.int .u16 sz, .int .u32 tb, .int .u16 dd, .int .i64 seed] w fun e w' => ∃ S t a : Nat, 1 ≤ S ∧ S ≤ 300 ∧ S ≤ t ∧ t ≤ a ∧ a ≤ 5000000000 ∧
      e = .returned (.tuple #[.pointer (some ⟨w.heap.size + 2 + S, 0, none⟩), .slice (some ⟨w.heap.size + 1, 0, none⟩) S S, .int .u64 a]) ∧ Built w w' S t a seed := by
  obtain ⟨S, t, a, eS, et, ea, hS1, hS2, hSt, hta, ha⟩ := nums sz tb dd h0 h1 h2 h3 h4 h5
  obtain ⟨C, hC, hmk⟩ := make_ring S hS2
  obtain ⟨C', hC', hmk'⟩ := make_msgs S hS2
  obtain ⟨A, hA, hAs, hA71, hA128, hA185, hA316⟩ := build62
  have HA : Hid (A.size = 396 ∧ A[71]? = some (.int .u64 0) ∧ A[128]? = some (.int .u64 0)) := ⟨hAs, hA71, hA128⟩
  have HE : Hid (1 + sz % 300 = (S : Int) ∧ tb + (S : Int) = (t : Int) ∧ IntKind.u64.wrap ((t : Int) + dd % (3 * (S : Int))) = (a : Int)) := ⟨eS, et, ea⟩
  have HF : Hid (Fill w ((w.alloc (.cells C 81)).alloc (.cells C' 64)) S 0 a seed) := Fill.new w S a seed C C' hC hC' 81 64
  clear eS et ea hC hC' hA71 hA128 hA185 hA316 hAs
  go_enter Ybad.func4, Ybad.ntmps4
  go_wp2
  rw [HE.out.1, HE.out.2.1, HE.out.2.2]
  clear HE h0 h1 h2 h3 h4 h5
  rw [hmk]
  go_wp2
  obtain ⟨r, hr, hrS⟩ : ∃ r : Nat, ((a : Int) - 1) % (S : Int) = (r : Int) ∧ r = (a - 1) % S := ⟨(a - 1) % S, by rw [show ((a : Int) - 1) = ((a - 1 : Nat) : Int) from by omega]; omega, rfl⟩
  rw [hr]
  have HR : Hid (r = (a - 1) % S) := hrS
  have hr2 : r < S := by rw [hrS]; exact Nat.mod_lt _ (by omega)
  clear hr hrS hmk hmk'
  go_loopg [17] S (fun gk kv wr => ∃ k : Nat, k ≤ S ∧ gk = S - k ∧ kv = .int .u64 k ∧ Fill w wr S k a seed)
  case atStart => exact ⟨0, by omega, rfl, rfl, HF.out⟩
  case round =>
    obtain ⟨k, hkS, rfl, rfl, hf⟩ := hrel
    have HFr : Hid (Fill w wr S k a seed) := hf
    by_cases hlt : k < S
    · have hsz : w.heap.size + 1 < wr.heap.size := by have := hf.size; omega
      obtain ⟨rv, hrv⟩ := hf.rcell k hlt
      obtain ⟨mv, hmv⟩ := hf.mcell k hlt
      have hrz := hf.rfz k
      have hmz := hf.mfz k
      have hk0 : (k : Int) < (S : Int) := by omega
      clear hf HF hA
      by_cases hkr : k ≤ r
      · go_wp2_with fail
        have hcr : ((wr.setCell ⟨w.heap.size + 1, k, none⟩ (.pointer (some ⟨wr.heap.size, 0, none⟩))).alloc (.cells #[.int .u64 ((a : Int) - 1 - ((r : Int) - (k : Int))), .int .i64 (wrap64 (seed + (k : Int)))] 78)).cell? ⟨w.heap.size, k, none⟩ = some rv := by
          rw [World.cell?_alloc_past _ _ _ (by simp [World.setCell]; omega), World.cell?_setCell_other _ _ _ _ (by simp)]; exact hrv
        have hcz : ((wr.setCell ⟨w.heap.size + 1, k, none⟩ (.pointer (some ⟨wr.heap.size, 0, none⟩))).alloc (.cells #[.int .u64 ((a : Int) - 1 - ((r : Int) - (k : Int))), .int .i64 (wrap64 (seed + (k : Int)))] 78)).frozen? ⟨w.heap.size, k, none⟩ = false := by
          rw [World.frozen?_alloc_past _ _ _ (by simp [World.setCell]; omega)]; simp [hrz]
        refine (p_store _ _ _ _ _ _ _ hcr hcz (msg_new _)).mono ?_
        rintro e w1 ⟨rfl, hw⟩
        have hf1 : Fill w w1 S (k + 1) a seed := by
          rw [hw]
          refine HFr.out.step' hlt _ _ ?_ rfl
          rw [Pl.num, ← HR.out, if_pos hkr]
          omega
        have HF1 : Hid (Fill w w1 S (k + 1) a seed) := hf1
        clear hw hf1 hcr hcz hrv hmv hrz hmz
        go_wp2
        go_roundg (S - (k + 1))
        case measure => omega
        case rel => exact ⟨k + 1, by omega, rfl, by go_num, HF1.out⟩
      · go_wp2_with fail
        have hcr : ((wr.setCell ⟨w.heap.size + 1, k, none⟩ (.pointer (some ⟨wr.heap.size, 0, none⟩))).alloc (.cells #[.int .u64 ((a : Int) - 1 - (r : Int) + (k : Int) - (S : Int)), .int .i64 (wrap64 (seed + (k : Int)))] 78)).cell? ⟨w.heap.size, k, none⟩ = some rv := by
          rw [World.cell?_alloc_past _ _ _ (by simp [World.setCell]; omega), World.cell?_setCell_other _ _ _ _ (by simp)]; exact hrv
        have hcz : ((wr.setCell ⟨w.heap.size + 1, k, none⟩ (.pointer (some ⟨wr.heap.size, 0, none⟩))).alloc (.cells #[.int .u64 ((a : Int) - 1 - (r : Int) + (k : Int) - (S : Int)), .int .i64 (wrap64 (seed + (k : Int)))] 78)).frozen? ⟨w.heap.size, k, none⟩ = false := by
          rw [World.frozen?_alloc_past _ _ _ (by simp [World.setCell]; omega)]; simp [hrz]
        refine (p_store _ _ _ _ _ _ _ hcr hcz (msg_new _)).mono ?_
        rintro e w1 ⟨rfl, hw⟩
        have hf1 : Fill w w1 S (k + 1) a seed := by
          rw [hw]
          refine HFr.out.step' hlt _ _ ?_ rfl
          have hq := Pl.big a S k (by omega) (by omega) hlt (by rw [← HR.out]; omega)
          rw [Pl.num, ← HR.out, if_neg (by omega)]
          rw [← HR.out] at hq
          omega
        have HF1 : Hid (Fill w w1 S (k + 1) a seed) := hf1
        clear hw hf1 hcr hcz hrv hmv hrz hmz
        go_wp2
        go_roundg (S - (k + 1))
        case measure => omega
        case rel => exact ⟨k + 1, by omega, rfl, by go_num, HF1.out⟩
    · obtain rfl : k = S := by omega
      have hk0 : decide ((k : Int) < (k : Int)) = false := decide_eq_false (by omega)
      have hsz := HFr.out.size
      have hAs := HA.out.1
      have hAn : ¬ A = #[] := by intro h; rw [h] at hAs; simp at hAs
      clear hf HF
      go_wp2_with fail
      have c71 : (wr.alloc (.cells (A.setIfInBounds 0 (.slice (some ⟨w.heap.size, 0, none⟩) k k)) 62)).cell? ⟨w.heap.size + 2 + k, 71, none⟩ = some (.int .u64 0) := by
        rw [World.cell?_alloc_at _ _ _ _ hsz.symm, set_other _ _ _ _ (by decide)]; exact HA.out.2.1
      refine (u64_store _ _ _ _ _ c71 (World.frozen?_alloc_at _ _ _ _ hsz.symm)).mono ?_
      rintro e w1 ⟨rfl, hw⟩
      have hB : Built w w1 k t a seed := by
        rw [hw]
        refine ⟨?_, (HFr.out.below.alloc (by omega) _).setCell (by show w.heap.size ≤ w.heap.size + 2 + k; omega) _, by simp [World.setCell]; omega, ?_, World.cell?_setCell_same _ _ _ c71, ?_⟩
        · exact HFr.out.toRing.later (by omega) (by omega)
        · rw [World.cell?_setCell_other _ _ _ _ (by simp), World.cell?_alloc_at _ _ _ _ hsz.symm, set_same _ _ _ (by omega)]
        · rw [World.cell?_setCell_other _ _ _ _ (by simp), World.cell?_alloc_at _ _ _ _ hsz.symm, set_other _ _ _ _ (by decide)]; exact HA.out.2.2
      have HB : Hid (Built w w1 k t a seed) := hB
      clear hw hB c71 hsz
      go_wp2
      go_ret3
      exact ⟨k, t, a, hS1, hS2, hSt, hta, ha, rfl, HB.out⟩

end Go.Proofs.YbulkckrcDoor
