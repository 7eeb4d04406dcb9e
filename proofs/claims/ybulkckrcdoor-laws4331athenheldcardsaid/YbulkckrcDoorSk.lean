import Derived.Test.YbulkckrcDoorBb
namespace Go.Proofs.YbulkckrcDoor
open Go.RowKit
set_option linter.unusedVariables false

/-- what skip asks: the ring, its topic in block T, the subscription in block sb -/
structure Pre (w : World) (g S t a T sb : Nat) (seed next : Int) : Prop where
  ring : Ring w g S S a seed
  topic0 : w.cell? ⟨T, 0, none⟩ = some (.slice (some ⟨g, 0, none⟩) S S)
  tail : w.cell? ⟨T, 71, none⟩ = some (.int .u64 t)
  s6 : w.cell? ⟨sb, 6, none⟩ = some (.pointer (some ⟨T, 0, none⟩))
  s1 : w.cell? ⟨sb, 1, none⟩ = some (.int .u64 next)
  s2 : ∃ v, w.cell? ⟨sb, 2, none⟩ = some v
  s3 : ∃ v, w.cell? ⟨sb, 3, none⟩ = some v
  s7 : ∃ v, w.cell? ⟨sb, 7, none⟩ = some v
  s8 : ∃ v, w.cell? ⟨sb, 8, none⟩ = some v
  fz : ∀ o, w.frozen? ⟨sb, o, none⟩ = false
  lt1 : g + 2 + S ≤ T
  lt2 : T < sb
  lt3 : sb < w.heap.size

/-- what skip leaves -/
structure Skipped (w w' : World) (g S a sb : Nat) (next : Int) : Prop where
  below : Below sb w w'
  size : w'.heap.size = w.heap.size + 1
  s1 : w'.cell? ⟨sb, 1, none⟩ = some (.int .u64 ((a : Int) - (S : Int)))
  s2 : w'.cell? ⟨sb, 2, none⟩ = some (.int .i64 ((a % S : Nat) : Int))
  s3 : w'.cell? ⟨sb, 3, none⟩ = some (.int .i64 ((a % S : Nat) : Int))
  s7 : w'.cell? ⟨sb, 7, none⟩ = some (.int .u64 ((a : Int) - (S : Int)))
  s8 : w'.cell? ⟨sb, 8, none⟩ = some (.pointer (some ⟨g + 2 + a % S, 0, none⟩))
  other : ∀ o, o ≠ 1 → o ≠ 2 → o ≠ 3 → o ≠ 7 → o ≠ 8 → w'.cell? ⟨sb, o, none⟩ = w.cell? ⟨sb, o, none⟩
  fz : ∀ o, w'.frozen? ⟨sb, o, none⟩ = false
  lag : w'.cell? ⟨w.heap.size, 0, none⟩ = some (.int .u64 (IntKind.u64.wrap ((a : Int) - (S : Int) - next)))

theorem cell_other {w : World} {b o o' : Nat} {v : Value} (h : o ≠ o') : (w.setCell ⟨b, o, none⟩ v).cell? ⟨b, o', none⟩ = w.cell? ⟨b, o', none⟩ :=
  World.cell?_setCell_other _ _ _ _ (fun e => h (by injection e))

theorem skipped_of {w wr : World} {g S t a T sb q : Nat} {seed next : Int} {nq qq : Nat} (h : Pre w g S t a T sb seed next) (hwr : wr = w.drewN qq) (hq : q = a % S) :
    Skipped w (((((((wr.drewN nq).setCell ⟨sb, 1, none⟩ (.int .u64 ((a : Int) - (S : Int)))).setCell ⟨sb, 7, none⟩ (.int .u64 ((a : Int) - (S : Int)))).setCell ⟨sb, 8, none⟩ (.pointer (some ⟨g + 2 + q, 0, none⟩))).setCell ⟨sb, 2, none⟩ (.int .i64 (q : Int))).setCell ⟨sb, 3, none⟩ (.int .i64 (q : Int))).alloc
      (.cells #[.int .u64 (IntKind.u64.wrap ((a : Int) - (S : Int) - next))] 88)) g S a sb next := by
  subst hwr; subst hq
  obtain ⟨v2, h2⟩ := h.s2
  obtain ⟨v3, h3⟩ := h.s3
  obtain ⟨v7, h7⟩ := h.s7
  obtain ⟨v8, h8⟩ := h.s8
  have hlt := h.lt3
  have b0 : Below sb w ((w.drewN qq).drewN nq) := ⟨rfl, rfl, rfl, Nat.le_refl _, fun _ _ => rfl⟩
  have b1 := ((((b0.setCell (p := ⟨sb, 1, none⟩) (Nat.le_refl _) (.int .u64 ((a : Int) - (S : Int)))).setCell (p := ⟨sb, 7, none⟩) (Nat.le_refl _) (.int .u64 ((a : Int) - (S : Int)))).setCell (p := ⟨sb, 8, none⟩) (Nat.le_refl _) (.pointer (some ⟨g + 2 + a % S, 0, none⟩))).setCell (p := ⟨sb, 2, none⟩) (Nat.le_refl _) (.int .i64 ((a % S : Nat) : Int))).setCell (p := ⟨sb, 3, none⟩) (Nat.le_refl _) (.int .i64 ((a % S : Nat) : Int))
  have hsz : (((((((w.drewN qq).drewN nq).setCell ⟨sb, 1, none⟩ (.int .u64 ((a : Int) - (S : Int)))).setCell ⟨sb, 7, none⟩ (.int .u64 ((a : Int) - (S : Int)))).setCell ⟨sb, 8, none⟩ (.pointer (some ⟨g + 2 + a % S, 0, none⟩))).setCell ⟨sb, 2, none⟩ (.int .i64 ((a % S : Nat) : Int))).setCell ⟨sb, 3, none⟩ (.int .i64 ((a % S : Nat) : Int))).heap.size = w.heap.size := by simp [World.setCell]
  have hsz' : sb < (((((((w.drewN qq).drewN nq).setCell ⟨sb, 1, none⟩ (.int .u64 ((a : Int) - (S : Int)))).setCell ⟨sb, 7, none⟩ (.int .u64 ((a : Int) - (S : Int)))).setCell ⟨sb, 8, none⟩ (.pointer (some ⟨g + 2 + a % S, 0, none⟩))).setCell ⟨sb, 2, none⟩ (.int .i64 ((a % S : Nat) : Int))).setCell ⟨sb, 3, none⟩ (.int .i64 ((a % S : Nat) : Int))).heap.size := by rw [hsz]; exact hlt
  refine ⟨b1.alloc (Nat.le_of_lt hsz') _, by simp [World.setCell], ?_, ?_, ?_, ?_, ?_, fun o h1 h2 h3 h7 h8 => ?_, fun o => ?_, ?_⟩
  · rw [World.cell?_alloc_past _ _ _ hsz', cell_other (by decide), cell_other (by decide), cell_other (by decide), cell_other (by decide)]
    exact World.cell?_setCell_same _ _ _ (u := .int .u64 next) h.s1
  · rw [World.cell?_alloc_past _ _ _ hsz', cell_other (by decide)]
    refine World.cell?_setCell_same _ _ _ (u := v2) ?_
    rw [cell_other (by decide), cell_other (by decide), cell_other (by decide)]; exact h2
  · rw [World.cell?_alloc_past _ _ _ hsz']
    refine World.cell?_setCell_same _ _ _ (u := v3) ?_
    rw [cell_other (by decide), cell_other (by decide), cell_other (by decide), cell_other (by decide)]; exact h3
  · rw [World.cell?_alloc_past _ _ _ hsz', cell_other (by decide), cell_other (by decide), cell_other (by decide)]
    refine World.cell?_setCell_same _ _ _ (u := v7) ?_
    rw [cell_other (by decide)]; exact h7
  · rw [World.cell?_alloc_past _ _ _ hsz', cell_other (by decide), cell_other (by decide)]
    refine World.cell?_setCell_same _ _ _ (u := v8) ?_
    rw [cell_other (by decide), cell_other (by decide)]; exact h8
  · rw [World.cell?_alloc_past _ _ _ hsz', cell_other (Ne.symm h3), cell_other (Ne.symm h2), cell_other (Ne.symm h8), cell_other (Ne.symm h7), cell_other (Ne.symm h1)]
    rfl
  · rw [World.frozen?_alloc_past _ _ _ hsz']
    simp [h.fz o]
  · rw [World.cell?_alloc_at _ _ _ _ hsz.symm]
    rfl

theorem Pre.drewN {w : World} {g S t a T sb : Nat} {seed next : Int} (h : Pre w g S t a T sb seed next) (q : Nat) : Pre (w.drewN q) g S t a T sb seed next :=
  ⟨⟨h.ring.ring, h.ring.msgs, h.ring.msg⟩, h.topic0, h.tail, h.s6, h.s1, h.s2, h.s3, h.s7, h.s8, h.fz, h.lt1, h.lt2, h.lt3⟩

set_option maxRecDepth 100000 in
set_option maxHeartbeats 400000 in
theorem skip_any (g S t a T sb : Nat) (seed next : Int) (w : World) (hP : Pre w g S t a T sb seed next) (hS1 : 1 ≤ S) (hS2 : S ≤ 300) (hSt : S ≤ t) (hta : t ≤ a) (ha : a ≤ 5000000000) :
    Calls Ybad.prog 5 #[.pointer (some ⟨sb, 0, none⟩)] w fun e w' => e = .returned (.iface 86 (.pointer (some ⟨w.heap.size, 0, none⟩))) ∧ Skipped w w' g S a sb next := by
  have HP : Hid (Pre w g S t a T sb seed next) := hP
  obtain ⟨hR, hT0, hT71, h6, h1, ⟨v2, h2⟩, ⟨v3, h3⟩, ⟨v7, h7⟩, ⟨v8, h8⟩, hfz, lt1, lt2, lt3⟩ := hP
  clear hfz hR h2 h3 h7 h8
  go_enter Ybad.func5, Ybad.ntmps5
  go_wp2_with fail
  refine (u64_load _ _ _ _ hT71).mono ?_
  rintro e w1 ⟨rfl, hw⟩
  obtain rfl : w = w1 := hw.symm
  go_wp2_with fail
  go_loopg [6] (a - t) (fun gk ev wr => ∃ E : Nat, t ≤ E ∧ E ≤ a ∧ gk = a - E ∧ ev = .int .u64 E ∧ ∃ q, wr = w.drewN q)
  case atStart => exact ⟨t, Nat.le_refl _, hta, rfl, rfl, 0, rfl⟩
  case round =>
    obtain ⟨E, htE, hEa, rfl, rfl, qq, hwr⟩ := hrel
    have HW : Hid (wr = w.drewN qq) := hwr
    have HPr : Hid (Pre wr g S t a T sb seed next) := by rw [hwr]; exact HP.out.drewN qq
    clear hwr hT0 hT71 h6 h1 lt3
    obtain ⟨hR, hT0, hT71, h6, h1, ⟨v2, h2⟩, ⟨v3, h3⟩, ⟨v7, h7⟩, ⟨v8, h8⟩, hfz, _, _, lt3⟩ := HPr.out
    have f1 := hfz 1
    have f2 := hfz 2
    have f3 := hfz 3
    have f7 := hfz 7
    have f8 := hfz 8
    clear hfz hR
    obtain ⟨q, hq, hqS⟩ : ∃ q : Nat, q = E % S ∧ q < S := ⟨_, rfl, Nat.mod_lt _ (by omega)⟩
    have hq1 : ((E : Int) - (S : Int)) % (S : Int) = (q : Int) := by
      have := Pl.sub_mod E S (by omega)
      rw [show ((E : Int) - (S : Int)) = ((E - S : Nat) : Int) from by omega, ← Int.natCast_emod, this, hq]
    have hq2 : (E : Int) % (S : Int) = (q : Int) := by rw [← Int.natCast_emod, hq]
    have hq0 : ((E : Int) - (S : Int)).tmod (S : Int) = (q : Int) := by rw [Int.tmod_eq_emod_of_nonneg (by omega)]; exact hq1
    have hq3 : (q : Int) < (S : Int) := by omega
    have hS0 : ¬ S = 0 := by omega
    have hS0' : ((S : Int) == 0) = false := beq_eq_false_iff_ne.2 (by omega)
    have hES : (S : Int) ≤ (E : Int) := by omega
    have hrc := HPr.out.ring.ring q hqS
    have hmsg := HPr.out.ring.msg q hqS
    have hm0 := hmsg.c0
    have HL : Hid (∀ n : Nat, Calls Ybad.prog 10 #[.pointer (some ⟨g, q, none⟩)] (wr.drewN n) fun e w' => e = .returned (.pointer (some ⟨g + 2 + q, 0, none⟩)) ∧ w' = wr.drewN n) := fun n => p_load g q (g + 2 + q) _ _ (wr.drewN n) hrc hmsg
    have HM : Hid (q = E % S) := hq
    clear hq hmsg
    by_cases hE : E < a
    · obtain ⟨hn1, hn2⟩ := Pl.num_on a S E hS1 (by omega) hE
      rw [← HM.out] at hn1 hn2
      generalize Pl.num a S q = nm at hn1 hn2 hm0
      have ht : ((nm : Int) == (E : Int) - (S : Int)) = false := beq_eq_false_iff_ne.2 (by omega)
      go_wp2_with fail
      go_quiet ((go_at_call 10; exact Calls.quiet_of_same (HL.out _)))
      go_wp2
      go_roundg (a - (nm + 1))
      case measure => omega
      case rel => exact ⟨nm + 1, by omega, by omega, rfl, by go_num, qq + _, by rw [HW.out, World.drewN_drewN]⟩
    · obtain rfl : E = a := by omega
      have hn := Pl.num_end E S hS1 (by omega)
      rw [← HM.out] at hn
      rw [hn] at hm0
      have hsub : ((E - S : Nat) : Int) = (E : Int) - (S : Int) := by omega
      rw [hsub] at hm0
      have ht : ((E : Int) - (S : Int) == (E : Int) - (S : Int)) = true := by simp
      clear hn hsub
      go_wp2_with fail
      go_quiet ((go_at_call 10; exact Calls.quiet_of_same (HL.out _)))
      go_wp2
      go_ret
      exact ⟨by rw [HW.out]; rfl, skipped_of HP.out HW.out HM.out⟩

end Go.Proofs.YbulkckrcDoor
