import Derived.Test.YbulkckrcBw
namespace Go.Proofs.Ybulkckrc
open Go.RowKit
set_option linter.unusedVariables false

set_option maxRecDepth 100000 in
set_option maxHeartbeats 800000 in
theorem btwice_same (next reported needed read0 lag : Int) (w : World) (he : (reported == next) = true) :
    Calls Yba.prog 5 #[.int .u64 next, .int .u64 reported, .int .u64 needed, .int .u64 read0, .int .i64 lag] w fun e w' => e = .returned (.bool true) ∧ Below w.heap.size w w' := by
  obtain ⟨A, hA, hAs, hA71, hA128, hA185, hA316⟩ := build62
  obtain ⟨Z, hA', hAs', _, _, _, _, _, hZ74⟩ := zero71
  have hA1 : (((Z.setIfInBounds 6 (.pointer (some ⟨w.heap.size, 0, none⟩))).setIfInBounds 1 (.int .u64 next)).setIfInBounds 4 (.int .u64 reported))[1]? = some (.int .u64 next) := by rw [set_other _ _ _ _ (by decide), set_same _ _ _ (by simp; omega)]
  have hA4 : (((Z.setIfInBounds 6 (.pointer (some ⟨w.heap.size, 0, none⟩))).setIfInBounds 1 (.int .u64 next)).setIfInBounds 4 (.int .u64 reported))[4]? = some (.int .u64 reported) := by rw [set_same _ _ _ (by simp; omega)]
  have hA6 : (((Z.setIfInBounds 6 (.pointer (some ⟨w.heap.size, 0, none⟩))).setIfInBounds 1 (.int .u64 next)).setIfInBounds 4 (.int .u64 reported))[6]? = some (.pointer (some ⟨w.heap.size, 0, none⟩)) := by rw [set_other _ _ _ _ (by decide), set_other _ _ _ _ (by decide), set_same _ _ _ (by omega)]
  have hA74 : (((Z.setIfInBounds 6 (.pointer (some ⟨w.heap.size, 0, none⟩))).setIfInBounds 1 (.int .u64 next)).setIfInBounds 4 (.int .u64 reported))[74]? = some (.int .u64 0) := by rw [set_other _ _ _ _ (by decide), set_other _ _ _ _ (by decide), set_other _ _ _ _ (by decide), hZ74]
  have T0 : Tp (w.alloc (.cells A 62)) w.heap.size 0 0 := Tp.new hA128 hA185 hA316
  have HA : Hid ((((Z.setIfInBounds 6 (.pointer (some ⟨w.heap.size, 0, none⟩))).setIfInBounds 1 (.int .u64 next)).setIfInBounds 4 (.int .u64 reported))[1]? = some (.int .u64 next) ∧ (((Z.setIfInBounds 6 (.pointer (some ⟨w.heap.size, 0, none⟩))).setIfInBounds 1 (.int .u64 next)).setIfInBounds 4 (.int .u64 reported))[4]? = some (.int .u64 reported) ∧ (((Z.setIfInBounds 6 (.pointer (some ⟨w.heap.size, 0, none⟩))).setIfInBounds 1 (.int .u64 next)).setIfInBounds 4 (.int .u64 reported))[6]? = some (.pointer (some ⟨w.heap.size, 0, none⟩)) ∧ (((Z.setIfInBounds 6 (.pointer (some ⟨w.heap.size, 0, none⟩))).setIfInBounds 1 (.int .u64 next)).setIfInBounds 4 (.int .u64 reported))[74]? = some (.int .u64 0)) := ⟨hA1, hA4, hA6, hA74⟩
  clear hAs hA71 hA128 hA185 hA316 hZ74 hA1 hA4 hA6 hA74
  go_enter Yba.func5, Yba.ntmps5
  go_wp2_with fail
  refine (u64_store _ _ _ _ _ T0.needed T0.fn).mono ?_
  rintro e w1 ⟨rfl, hw⟩
  have T1 : Tp w1 w.heap.size needed 0 := by rw [hw]; exact T0.setNeeded _
  have HB1 : Hid (Below w.heap.size w w1 ∧ w1.heap.size = w.heap.size + 1) := by rw [hw]; exact ⟨((Below.refl _ _).alloc (Nat.le_refl _) _).setCell (Nat.le_refl _) _, by simp [World.setCell]⟩
  clear hw T0
  go_wp2_with fail
  refine (i64_store _ _ _ _ _ T1.lag T1.fl).mono ?_
  rintro e w2 ⟨rfl, hw⟩
  have T2 : Tp w2 w.heap.size needed lag := by rw [hw]; exact T1.setLag _
  have HB2 : Hid (Below w.heap.size w w2 ∧ w2.heap.size = w.heap.size + 1) := by rw [hw]; exact ⟨HB1.out.1.setCell (Nat.le_refl _) _, by rw [size_setCell]; exact HB1.out.2⟩
  clear hw T1 HB1
  have S0 : St (w2.alloc (.cells (((Z.setIfInBounds 6 (.pointer (some ⟨w.heap.size, 0, none⟩))).setIfInBounds 1 (.int .u64 next)).setIfInBounds 4 (.int .u64 reported)) 71)) w.heap.size w2.heap.size next reported needed 0 lag := St.new T2 (by have := HB2.out.2; omega) HA.out.1 HA.out.2.1 HA.out.2.2.1 HA.out.2.2.2
  have HB3 : Hid (Below w.heap.size w (w2.alloc (.cells (((Z.setIfInBounds 6 (.pointer (some ⟨w.heap.size, 0, none⟩))).setIfInBounds 1 (.int .u64 next)).setIfInBounds 4 (.int .u64 reported)) 71))) := HB2.out.1.alloc (by have := HB2.out.2; omega) _
  have HN : Hid (w.heap.size ≠ w2.heap.size ∧ w.heap.size ≤ w2.heap.size) := by have := HB2.out.2; exact ⟨by omega, by omega⟩
  clear HA T2 HB2
  go_wp2_with fail
  refine (u64_store _ _ _ _ _ S0.rd S0.fd).mono ?_
  rintro e w3 ⟨rfl, hw⟩
  have S1 : St w3 w.heap.size w2.heap.size next reported needed read0 lag := by rw [hw]; exact S0.setRd HN.out.1 _
  have HB4 : Hid (Below w.heap.size w w3) := by rw [hw]; exact HB3.out.setCell HN.out.2 _
  clear hw S0 HB3 hA hA' hAs'
  generalize w2.heap.size = sb at S1 HN ⊢
  generalize htb : w.heap.size = tb at S1 HN ⊢
  have HTB : Hid (w.heap.size = tb) := htb
  clear htb
  go_wp2_with fail
  refine (report_same _ _ _ _ _ _ _ _ S1 he).mono ?_
  rintro e w4 ⟨rfl, hw⟩
  obtain rfl : w3 = w4 := hw.symm
  have HS : Hid (St w3 tb sb next reported needed read0 lag) := S1
  obtain ⟨h1, h2, h3, h4, h5, h6, h7, h8, h9, h10⟩ := S1
  clear h1 h3 h8 h9 h10 hw
  go_wp2_with fail
  refine (u64_load _ _ _ _ h7).mono ?_
  rintro e w5 ⟨rfl, rfl⟩
  go_wp2_with fail
  refine (i64_load _ _ _ _ h2).mono ?_
  rintro e w5 ⟨rfl, rfl⟩
  go_wp2_with fail
  refine (report_same _ _ _ _ _ _ _ _ HS.out he).mono ?_
  rintro e w4 ⟨rfl, hw⟩
  obtain rfl : w5 = w4 := hw.symm
  clear hw
  go_wp2_with fail
  refine (u64_load _ _ _ _ h7).mono ?_
  rintro e w6 ⟨rfl, rfl⟩
  go_wp2_with fail
  refine (i64_load _ _ _ _ h2).mono ?_
  rintro e w6 ⟨rfl, rfl⟩
  go_wp2
  go_ret
  exact ⟨by simp, HB4.out⟩

set_option maxRecDepth 100000 in
set_option maxHeartbeats 800000 in
theorem btwice_go (next reported needed read0 lag : Int) (w : World) (he : (reported == next) = false) :
    Calls Yba.prog 5 #[.int .u64 next, .int .u64 reported, .int .u64 needed, .int .u64 read0, .int .i64 lag] w fun e w' => e = .returned (.bool true) ∧ Below w.heap.size w w' := by
  obtain ⟨A, hA, hAs, hA71, hA128, hA185, hA316⟩ := build62
  obtain ⟨Z, hA', hAs', _, _, _, _, _, hZ74⟩ := zero71
  have hA1 : (((Z.setIfInBounds 6 (.pointer (some ⟨w.heap.size, 0, none⟩))).setIfInBounds 1 (.int .u64 next)).setIfInBounds 4 (.int .u64 reported))[1]? = some (.int .u64 next) := by rw [set_other _ _ _ _ (by decide), set_same _ _ _ (by simp; omega)]
  have hA4 : (((Z.setIfInBounds 6 (.pointer (some ⟨w.heap.size, 0, none⟩))).setIfInBounds 1 (.int .u64 next)).setIfInBounds 4 (.int .u64 reported))[4]? = some (.int .u64 reported) := by rw [set_same _ _ _ (by simp; omega)]
  have hA6 : (((Z.setIfInBounds 6 (.pointer (some ⟨w.heap.size, 0, none⟩))).setIfInBounds 1 (.int .u64 next)).setIfInBounds 4 (.int .u64 reported))[6]? = some (.pointer (some ⟨w.heap.size, 0, none⟩)) := by rw [set_other _ _ _ _ (by decide), set_other _ _ _ _ (by decide), set_same _ _ _ (by omega)]
  have hA74 : (((Z.setIfInBounds 6 (.pointer (some ⟨w.heap.size, 0, none⟩))).setIfInBounds 1 (.int .u64 next)).setIfInBounds 4 (.int .u64 reported))[74]? = some (.int .u64 0) := by rw [set_other _ _ _ _ (by decide), set_other _ _ _ _ (by decide), set_other _ _ _ _ (by decide), hZ74]
  have T0 : Tp (w.alloc (.cells A 62)) w.heap.size 0 0 := Tp.new hA128 hA185 hA316
  have HA : Hid ((((Z.setIfInBounds 6 (.pointer (some ⟨w.heap.size, 0, none⟩))).setIfInBounds 1 (.int .u64 next)).setIfInBounds 4 (.int .u64 reported))[1]? = some (.int .u64 next) ∧ (((Z.setIfInBounds 6 (.pointer (some ⟨w.heap.size, 0, none⟩))).setIfInBounds 1 (.int .u64 next)).setIfInBounds 4 (.int .u64 reported))[4]? = some (.int .u64 reported) ∧ (((Z.setIfInBounds 6 (.pointer (some ⟨w.heap.size, 0, none⟩))).setIfInBounds 1 (.int .u64 next)).setIfInBounds 4 (.int .u64 reported))[6]? = some (.pointer (some ⟨w.heap.size, 0, none⟩)) ∧ (((Z.setIfInBounds 6 (.pointer (some ⟨w.heap.size, 0, none⟩))).setIfInBounds 1 (.int .u64 next)).setIfInBounds 4 (.int .u64 reported))[74]? = some (.int .u64 0)) := ⟨hA1, hA4, hA6, hA74⟩
  clear hAs hA71 hA128 hA185 hA316 hZ74 hA1 hA4 hA6 hA74
  go_enter Yba.func5, Yba.ntmps5
  go_wp2_with fail
  refine (u64_store _ _ _ _ _ T0.needed T0.fn).mono ?_
  rintro e w1 ⟨rfl, hw⟩
  have T1 : Tp w1 w.heap.size needed 0 := by rw [hw]; exact T0.setNeeded _
  have HB1 : Hid (Below w.heap.size w w1 ∧ w1.heap.size = w.heap.size + 1) := by rw [hw]; exact ⟨((Below.refl _ _).alloc (Nat.le_refl _) _).setCell (Nat.le_refl _) _, by simp [World.setCell]⟩
  clear hw T0
  go_wp2_with fail
  refine (i64_store _ _ _ _ _ T1.lag T1.fl).mono ?_
  rintro e w2 ⟨rfl, hw⟩
  have T2 : Tp w2 w.heap.size needed lag := by rw [hw]; exact T1.setLag _
  have HB2 : Hid (Below w.heap.size w w2 ∧ w2.heap.size = w.heap.size + 1) := by rw [hw]; exact ⟨HB1.out.1.setCell (Nat.le_refl _) _, by rw [size_setCell]; exact HB1.out.2⟩
  clear hw T1 HB1
  have S0 : St (w2.alloc (.cells (((Z.setIfInBounds 6 (.pointer (some ⟨w.heap.size, 0, none⟩))).setIfInBounds 1 (.int .u64 next)).setIfInBounds 4 (.int .u64 reported)) 71)) w.heap.size w2.heap.size next reported needed 0 lag := St.new T2 (by have := HB2.out.2; omega) HA.out.1 HA.out.2.1 HA.out.2.2.1 HA.out.2.2.2
  have HB3 : Hid (Below w.heap.size w (w2.alloc (.cells (((Z.setIfInBounds 6 (.pointer (some ⟨w.heap.size, 0, none⟩))).setIfInBounds 1 (.int .u64 next)).setIfInBounds 4 (.int .u64 reported)) 71))) := HB2.out.1.alloc (by have := HB2.out.2; omega) _
  have HN : Hid (w.heap.size ≠ w2.heap.size ∧ w.heap.size ≤ w2.heap.size) := by have := HB2.out.2; exact ⟨by omega, by omega⟩
  clear HA T2 HB2
  go_wp2_with fail
  refine (u64_store _ _ _ _ _ S0.rd S0.fd).mono ?_
  rintro e w3 ⟨rfl, hw⟩
  have S1 : St w3 w.heap.size w2.heap.size next reported needed read0 lag := by rw [hw]; exact S0.setRd HN.out.1 _
  have HB4 : Hid (Below w.heap.size w w3) := by rw [hw]; exact HB3.out.setCell HN.out.2 _
  clear hw S0 HB3 hA hA' hAs'
  generalize w2.heap.size = sb at S1 HN ⊢
  generalize htb : w.heap.size = tb at S1 HN ⊢
  have HTB : Hid (w.heap.size = tb) := htb
  clear htb
  go_wp2_with fail
  refine (report_go w.heap.size _ _ _ _ _ _ _ _ S1 he HN.out.1 (by rw [HTB.out]; exact Nat.le_refl _) (by rw [HTB.out]; exact HN.out.2)).mono ?_
  rintro e w4 ⟨rfl, hb4, S2⟩
  have HB5 : Hid (Below w.heap.size w w4) := HB4.out.trans hb4
  clear hb4 HB4 S1
  have hnq := neq25
  generalize lagOf next reported needed lag = lag' at S2
  have HS : Hid (St w4 tb sb next next needed next lag') := S2
  obtain ⟨h1, h2, h3, h4, h5, h6, h7, h8, h9, h10⟩ := S2
  clear h1 h3 h8 h9 h10
  go_wp2_with fail
  refine (u64_load _ _ _ _ h7).mono ?_
  rintro e w5 ⟨rfl, rfl⟩
  go_wp2_with fail
  refine (i64_load _ _ _ _ h2).mono ?_
  rintro e w5 ⟨rfl, rfl⟩
  go_wp2_with fail
  refine (report_same _ _ _ _ _ _ _ _ HS.out (by simp)).mono ?_
  rintro e w6 ⟨rfl, hw⟩
  obtain rfl : w5 = w6 := hw.symm
  clear hw
  go_wp2_with fail
  refine (u64_load _ _ _ _ h7).mono ?_
  rintro e w7 ⟨rfl, rfl⟩
  go_wp2_with fail
  refine (i64_load _ _ _ _ h2).mono ?_
  rintro e w7 ⟨rfl, rfl⟩
  go_wp2
  go_ret
  exact ⟨by simp, HB5.out⟩

end Go.Proofs.Ybulkckrc
