import Derived.Test.YbulkckqaDoorBc
namespace Go.Proofs.YbulkckqaDoor
open Go.RowKit
set_option linter.unusedVariables false

set_option maxRecDepth 100000 in
set_option maxHeartbeats 800000 in
theorem check_yes (b off : Nat) (n c : Nat) (zs : List Int) (i : Nat) (d : Int) (lone : Bool) (a : Addr) (w : World) (hS : Src w (some ⟨b, off, none⟩) n c zs) (hn : n ≤ 1024) (hin : i ≤ n) (hs : Pl.skipN zs i = n)
    (hc : w.cell? ⟨0, 0, none⟩ = some (.iface 93 (.pointer (some a)))) :
    Calls Ybad.prog 10 #[.slice (some ⟨b, off, none⟩) n c, .int .i64 (i : Int), .int .i64 d, .bool lone] w fun e w' => e = .returned (.bool true) ∧ Below w.heap.size w w' := by
  obtain ⟨ti, hti, hcmp⟩ := Option.map_eq_some_iff.1 comp93
  obtain ⟨tj, htj, _⟩ := Option.map_eq_some_iff.1 size120
  have hq := fun w => run_neq_iface_ptr_same w a Ybad.underlying27 Ybad.underlying93 hti hcmp htj
  have hni : ∀ w : World, (binOp .neq 27 .nilIface .nilIface).run Ybad.prog w = .ok (.bool false) w := fun w => run_neq_nil_nil w 27 (by kernel_rfl)
  obtain ⟨C, hC, hmk⟩ := make_bytes n hn
  obtain ⟨W2, hcp, hb2, hsz2, hcl2⟩ := copy_in hS C hC
  have hlen := hS.1
  have hpos := lt_of_cell' hc
  have hend := end_yes W2.heap.size w.heap.size n zs i d lone (W2.alloc (.cells #[.slice (some ⟨w.heap.size, 0, none⟩) n n, .int .i64 (i : Int), .int .i64 d, .bool lone] 25)) rd_new (by omega) hlen hn (by omega)
    (fun j hj => by rw [World.cell?_alloc_past _ _ _ (by omega)]; exact hcl2 j hj) hs
  rw [hs] at hend
  have hqq := hs
  clear hs
  have HS : Hid (Src w (some ⟨b, off, none⟩) n c zs ∧ Below w.heap.size w W2 ∧ W2.heap.size = w.heap.size + 1 ∧ ∀ j, j < n → W2.cell? ⟨w.heap.size, j, none⟩ = some (.int .u8 (zs.getD j 0))) := ⟨hS, hb2, hsz2, hcl2⟩
  have HL : Hid (zs.length = n) := hlen
  have HQ : Hid (Pl.skipN zs i = n) := hqq
  have HE := hend
  clear hS hsz2 hcl2 hC hti hcmp htj hlen hend hb2 hqq
  have t0 : (i : Int) ≤ (n : Int) := by omega
  go_enter Ybad.func10, Ybad.ntmps10
  go_wp2_with fail
  refine HE.mono ?_
  rintro e w3 ⟨rfl, hb3, hsz3, c0, c1, c2, c3, fz⟩
  obtain ⟨hb, hS3, hC3⟩ := after HS.out.1 HS.out.2.1 HS.out.2.2.1 HS.out.2.2.2 hb3
  have hv1 := hS3.convert
  have hv2 := hC3.convert
  have hc3 := (hb.cell (p := ⟨0, 0, none⟩) hpos).trans hc
  have HB : Hid (Below w.heap.size w w3 ∧ Src w3 (some ⟨b, off, none⟩) n c zs) := ⟨hb, hS3⟩
  clear hb3 hsz3 hS3 hC3 HE hcp hmk HS hb hc
  go_wp2_with fail
  go_loopg [12] (n - i) (fun gk j wr => wr = w3 ∧ ∃ k : Nat, i ≤ k ∧ k ≤ n ∧ gk = n - k ∧ j = .int .i64 k ∧ Pl.skipN zs k = n)
  case atStart => exact ⟨rfl, i, Nat.le_refl _, hin, rfl, rfl, HQ.out⟩
  case round =>
    obtain ⟨rfl, k, hik, hkn, rfl, rfl, hk⟩ := hrel
    have HK : Hid (Pl.skipN zs k = n) := hk
    clear hk
    by_cases hlt : k < n
    · have hck : wr.cell? ⟨b, off + k, none⟩ = some (.int .u8 (zs.getD k 0)) := by
        obtain ⟨_, h | ⟨x, hx, h | ⟨_, h⟩⟩⟩ := HB.out.2
        · cases h.1
        · omega
        · cases hx; exact h k hlt
      have hk0 : (k : Int) < (n : Int) := by omega
      generalize hzz : zs.getD k 0 = z at hck
      have HZ : Hid (zs.getD k 0 = z) := hzz
      clear hzz
      have hsz : Pl.sp z = true := by
        cases hsp : Pl.sp z with
        | true => rfl
        | false =>
          have := HK.out
          rw [Pl.skip_stop zs k (by have := HL.out; omega) (by rw [HZ.out]; exact hsp)] at this
          omega
      go_wp2_with (go_at_call 16; refine (sp_any _ _).mono ?_; rw [hsz]; rintro e w4 ⟨rfl, rfl⟩)
      go_roundg (n - (k + 1))
      case measure => omega
      case rel => exact ⟨rfl, k + 1, by omega, by omega, rfl, by go_num, by rw [Pl.skip_on zs k (by have := HL.out; omega) (by rw [HZ.out]; exact hsz)]; exact HK.out⟩
    · have hk0 : decide ((k : Int) < (n : Int)) = false := decide_eq_false (by omega)
      have ht : ((k : Int) == (n : Int)) = true := beq_iff_eq.2 (by omega)
      have ht2 : ((n : Int) != (k : Int)) = false := by simp; omega
      go_wp2_with fail
      refine (equal_any _ _ _ _ _ _ _ _ hv2 hv1).mono ?_
      rintro e w4 ⟨rfl, rfl⟩
      go_wp2_with fail
      refine (equal_any _ _ _ _ _ _ _ _ hv2 hv1).mono ?_
      rintro e w4 ⟨rfl, rfl⟩
      go_wp2
      go_ret
      exact ⟨rfl, HB.out.1⟩

end Go.Proofs.YbulkckqaDoor
