import Derived.Test.YbulkckqaDoorBs
import Derived.Laws.BytesArg
namespace Go.Proofs.YbulkckqaDoor
open Go.RowKit
set_option linter.unusedVariables false

set_option maxRecDepth 100000 in
set_option maxHeartbeats 400000 in
theorem end_yes (rb g n : Nat) (zs : List Int) (i : Nat) (d : Int) (lone : Bool) (w : World) (hr : Rd w rb g n i d lone) (hg : g < rb)
    (hz : zs.length = n) (hn : n ≤ 1024) (hi : i ≤ 4096) (hcell : ∀ j, j < n → w.cell? ⟨g, j, none⟩ = some (.int .u8 (zs.getD j 0))) (hs : Pl.skipN zs i = n) :
    Calls Ybad.prog 15 #[.pointer (some ⟨rb, 0, none⟩)] w fun e w' => e = .returned .nilIface ∧ Below rb w w' ∧ w'.heap.size = w.heap.size ∧ Rd w' rb g n (Pl.skipN zs i) d lone := by
  have hsk := skip_any rb g n zs i d lone w hr hg hz hn hi hcell
  rw [hs] at hsk ⊢
  clear hs hcell hr
  go_enter Ybad.func15, Ybad.ntmps15
  go_wp2_with fail
  refine hsk.mono ?_
  rintro e w1 ⟨rfl, hb, hsz, hrd⟩
  have HRD : Hid (Rd w1 rb g n n d lone ∧ w1.heap.size = w.heap.size) := ⟨hrd, hsz⟩
  obtain ⟨c0, c1, c2, c3, fz⟩ := hrd
  clear hsk hsz
  have ht : ((n : Int) != (n : Int)) = false := by simp
  go_wp2
  go_quiet (fail)
  go_wp2
  go_ret
  exact ⟨rfl, below_drewN' hb, HRD.out.2, HRD.out.1.drewN _⟩

set_option maxRecDepth 100000 in
set_option maxHeartbeats 400000 in
theorem end_no (rb g n : Nat) (zs : List Int) (i : Nat) (d : Int) (lone : Bool) (a : Addr) (w : World) (hr : Rd w rb g n i d lone) (hg : g < rb)
    (hz : zs.length = n) (hn : n ≤ 1024) (hi : i ≤ 4096) (hcell : ∀ j, j < n → w.cell? ⟨g, j, none⟩ = some (.int .u8 (zs.getD j 0))) (hs : Pl.skipN zs i ≠ n)
    (hc : w.cell? ⟨0, 0, none⟩ = some (.iface 93 (.pointer (some a)))) :
    Calls Ybad.prog 15 #[.pointer (some ⟨rb, 0, none⟩)] w fun e w' => e = .returned (.iface 93 (.pointer (some a))) ∧ Below rb w w' ∧ w'.heap.size = w.heap.size ∧ Rd w' rb g n (Pl.skipN zs i) d lone := by
  have hsk := skip_any rb g n zs i d lone w hr hg hz hn hi hcell
  clear hcell hr
  generalize Pl.skipN zs i = q at hsk hs ⊢
  go_enter Ybad.func15, Ybad.ntmps15
  go_wp2_with fail
  refine hsk.mono ?_
  rintro e w1 ⟨rfl, hb, hsz, hrd⟩
  have HRD : Hid (Rd w1 rb g n q d lone ∧ w1.heap.size = w.heap.size) := ⟨hrd, hsz⟩
  obtain ⟨c0, c1, c2, c3, fz⟩ := hrd
  have hc' := (hb.cell (p := ⟨0, 0, none⟩) (by show 0 < rb; omega)).trans hc
  clear hsk hsz hc
  have ht : ((q : Int) != (n : Int)) = true := by rw [bne_iff_ne]; omega
  go_wp2
  go_quiet (fail)
  go_wp2
  go_ret
  exact ⟨rfl, below_drewN' hb, HRD.out.2, HRD.out.1.drewN _⟩

set_option maxRecDepth 100000 in
set_option maxHeartbeats 400000 in
theorem sp_any (z : Int) (w : World) : Calls Ybad.prog 16 #[.int .u8 z] w fun e w' => e = .returned (.bool (Pl.sp z)) ∧ w' = w := by
  unfold Pl.sp
  by_cases h1 : (z == 32) = true
  · go_enter Ybad.func16, Ybad.ntmps16
    go_wp2
    go_ret
    exact ⟨by simp [h1], rfl⟩
  have h1 : (z == 32) = false := by simpa using h1
  by_cases h2 : (z == 9) = true
  · go_enter Ybad.func16, Ybad.ntmps16
    go_wp2
    go_ret
    exact ⟨by simp [h2], rfl⟩
  have h2 : (z == 9) = false := by simpa using h2
  by_cases h3 : (z == 13) = true
  · go_enter Ybad.func16, Ybad.ntmps16
    go_wp2
    go_ret
    exact ⟨by simp [h3], rfl⟩
  have h3 : (z == 13) = false := by simpa using h3
  go_enter Ybad.func16, Ybad.ntmps16
  go_wp2
  go_ret
  exact ⟨by simp [h1, h2, h3], rfl⟩

set_option maxRecDepth 100000 in
set_option maxHeartbeats 400000 in
theorem equal_any (p q : Option Addr) (n c m d : Nat) (s : ByteArray) (w : World) (h1 : (convert 22 9 (.slice p n c)).run Ybad.prog w = .ok (.string s) w) (h2 : (convert 22 9 (.slice q m d)).run Ybad.prog w = .ok (.string s) w) :
    Calls Ybad.prog 17 #[.slice p n c, .slice q m d] w fun e w' => e = .returned (.bool true) ∧ w' = w := by
  go_enter Ybad.func17, Ybad.ntmps17
  go_wp2
  go_ret
  exact ⟨by simp, rfl⟩

end Go.Proofs.YbulkckqaDoor
