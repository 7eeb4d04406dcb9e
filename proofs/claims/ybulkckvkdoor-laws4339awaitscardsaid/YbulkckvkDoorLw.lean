import Derived.Test.YbulkckvkDoorPr
namespace Go.Proofs.YbulkckvkDoor
open Go.RowKit Go.Conc
set_option linter.unusedVariables false

theorem Pre.env_at {w W : World} {k m : Int} {cl0 : Bool} {Z : Array Value} {fin gv : Value} {cl : Nat} (h : Pre w W k m cl0 Z fin) (hc : W.heap.size = cl) (hZs : Z.size = 72) (hZ59 : Z[59]? = some (.int .i32 0)) (hw0 : 0 < w.heap.size) (hg : w.cell? ⟨0, 0, none⟩ = some gv)
    (hfin : ∀ f, fin = .chan (some f) → (w.heap.size + 1 + 1 + 1 + 1 + 1 + 1) < f ∧ f < W.heap.size ∧ W.heap[f]? = some (.chan 0 #[] true 0 0 false)) :
    Env (W.alloc (.cells #[.int .i64 0] 3)) w.heap.size (w.heap.size + 1) (w.heap.size + 1 + 1 + 1) (w.heap.size + 1 + 1 + 1 + 1) (w.heap.size + 1 + 1 + 1 + 1 + 1 + 1) cl k m 0 0 0 0 cl0 (.chan (some (w.heap.size + 1 + 1))) (.iface 78 (.pointer (some ⟨(w.heap.size + 1 + 1 + 1 + 1 + 1), 0, none⟩))) fin gv := by
  subst hc
  exact h.env hZs hZ59 hw0 hg hfin

set_option maxRecDepth 100000 in
set_option maxHeartbeats 1600000 in
theorem law_o0 (k0 m0 : Int) (w : World) (ae : Addr) (hk0 : 0 ≤ k0) (hk1 : k0 ≤ 65535) (hm0 : 0 ≤ m0) (hm1 : m0 ≤ 255) (hm : m0 % 3 = 0) (hw0 : 0 < w.heap.size) (hg : w.cell? ⟨0, 0, none⟩ = some (.iface 78 (.pointer (some ae)))) :
    Calls Ybad.prog 3 #[.int .u16 k0, .int .u8 m0, .bool false] w fun e w' => e = .returned (.bool true) ∧ Below w.heap.size w w' := by
  obtain ⟨kn, hkn⟩ : ∃ kn : Nat, k0 % 512 = (kn : Int) := ⟨(k0 % 512).toNat, by omega⟩
  have hkb : kn ≤ 511 := by omega
  obtain ⟨Z, hZ, hZs, hZ59⟩ := zero67
  have hmc := mk0
  have HP : Hid (Pre w (((((((w.alloc (.cells #[.int .i64 (kn : Int)] 3)).alloc (.cells #[.int .i64 0] 3)).alloc (.chan 0 #[] false 0 0 false)).alloc (.cells ((Z.setIfInBounds 61 (.chan (some (w.heap.size + 1 + 1)))).setIfInBounds 62 (.bool false)) 67)).alloc (.cells #[.pointer (some ⟨(w.heap.size + 1 + 1 + 1), 0, none⟩)] 23)).alloc (.cells #[.string ⟨#[122, 122]⟩] 80)).alloc (.cells #[.int .i64 (kn : Int), .int .i64 0, .int .i64 0, .iface 78 (.pointer (some ⟨(w.heap.size + 1 + 1 + 1 + 1 + 1), 0, none⟩)), .chan none] 73)) (kn : Int) 0 false Z (.chan none)) := pre_new w _ _ _ Z
  have HG : Hid (0 < w.heap.size ∧ w.cell? ⟨0, 0, none⟩ = some (.iface 78 (.pointer (some ae))) ∧ Z.size = 72 ∧ Z[59]? = some (.int .i32 0)) := ⟨hw0, hg, hZs, hZ59⟩
  have hse := same_err
  clear hZ59 hw0 hg
  go_enter Ybad.func3, Ybad.ntmps3
  go_wp2_with fail
  refine (new_calls _ _).mono ?_
  rintro e w1 ⟨rfl, rfl⟩
  go_wp2_with fail
  have HE : Hid (Env _ w.heap.size (w.heap.size + 1) (w.heap.size + 1 + 1 + 1) (w.heap.size + 1 + 1 + 1 + 1) (w.heap.size + 1 + 1 + 1 + 1 + 1 + 1) (w.heap.size + 1 + 1 + 1 + 1 + 1 + 1 + 1) (kn : Int) 0 0 0 0 0 false (.chan (some (w.heap.size + 1 + 1))) (.iface 78 (.pointer (some ⟨(w.heap.size + 1 + 1 + 1 + 1 + 1), 0, none⟩))) (.chan none) _) := HP.out.env_at (by simp only [alloc_heap, Array.size_push]) HG.out.2.2.1 HG.out.2.2.2 HG.out.1 HG.out.2.1 (fun f e => by cases e)
  have HB : Hid (Below w.heap.size w _) := HP.out.bl.alloc (by have := HP.out.sz; omega) (.cells #[.int .i64 0] 3)
  refine (await_zero (kn := kn) (by omega) HE.out).mono ?_
  rintro e w2 ⟨rfl, ⟨chg, clo, hE⟩, hb⟩
  have HB2 : Hid (Below w.heap.size w w2) := HB.out.trans hb
  clear HB hb HE HP hmc hZ
  have e1 := hE.hk
  have e2 := hE.hm
  have e3 := hE.hcl
  have e4 := hE.c1
  have e5 := hE.c2
  have e6 := hE.hg
  clear hE HG
  go_wp2_with fail
  go_quiet (fail)
  go_wp2
  go_ret
  exact ⟨by simp, below_drewN HB2.out _⟩

set_option maxRecDepth 100000 in
set_option maxHeartbeats 1600000 in
theorem law_c0 (k0 m0 : Int) (w : World) (ae : Addr) (hk0 : 0 ≤ k0) (hk1 : k0 ≤ 65535) (hm0 : 0 ≤ m0) (hm1 : m0 ≤ 255) (hm : m0 % 3 = 0) (hw0 : 0 < w.heap.size) (hg : w.cell? ⟨0, 0, none⟩ = some (.iface 78 (.pointer (some ae)))) :
    Calls Ybad.prog 3 #[.int .u16 k0, .int .u8 m0, .bool true] w fun e w' => e = .returned (.bool true) ∧ Below w.heap.size w w' := by
  obtain ⟨kn, hkn⟩ : ∃ kn : Nat, k0 % 512 = (kn : Int) := ⟨(k0 % 512).toNat, by omega⟩
  have hkb : kn ≤ 511 := by omega
  obtain ⟨Z, hZ, hZs, hZ59⟩ := zero67
  have hmc := mk0
  have HP : Hid (Pre w (((((((w.alloc (.cells #[.int .i64 (kn : Int)] 3)).alloc (.cells #[.int .i64 0] 3)).alloc (.chan 0 #[] false 0 0 false)).alloc (.cells ((Z.setIfInBounds 61 (.chan (some (w.heap.size + 1 + 1)))).setIfInBounds 62 (.bool true)) 67)).alloc (.cells #[.pointer (some ⟨(w.heap.size + 1 + 1 + 1), 0, none⟩)] 23)).alloc (.cells #[.string ⟨#[122, 122]⟩] 80)).alloc (.cells #[.int .i64 (kn : Int), .int .i64 0, .int .i64 0, .iface 78 (.pointer (some ⟨(w.heap.size + 1 + 1 + 1 + 1 + 1), 0, none⟩)), .chan none] 73)) (kn : Int) 0 true Z (.chan none)) := pre_new w _ _ _ Z
  have HG : Hid (0 < w.heap.size ∧ w.cell? ⟨0, 0, none⟩ = some (.iface 78 (.pointer (some ae))) ∧ Z.size = 72 ∧ Z[59]? = some (.int .i32 0)) := ⟨hw0, hg, hZs, hZ59⟩
  have hse := same_err
  clear hZ59 hw0 hg
  go_enter Ybad.func3, Ybad.ntmps3
  go_wp2_with fail
  refine (new_calls _ _).mono ?_
  rintro e w1 ⟨rfl, rfl⟩
  go_wp2_with fail
  have HE : Hid (Env _ w.heap.size (w.heap.size + 1) (w.heap.size + 1 + 1 + 1) (w.heap.size + 1 + 1 + 1 + 1) (w.heap.size + 1 + 1 + 1 + 1 + 1 + 1) (w.heap.size + 1 + 1 + 1 + 1 + 1 + 1 + 1) (kn : Int) 0 0 0 0 0 true (.chan (some (w.heap.size + 1 + 1))) (.iface 78 (.pointer (some ⟨(w.heap.size + 1 + 1 + 1 + 1 + 1), 0, none⟩))) (.chan none) _) := HP.out.env_at (by simp only [alloc_heap, Array.size_push]) HG.out.2.2.1 HG.out.2.2.2 HG.out.1 HG.out.2.1 (fun f e => by cases e)
  have HB : Hid (Below w.heap.size w _) := HP.out.bl.alloc (by have := HP.out.sz; omega) (.cells #[.int .i64 0] 3)
  refine (await_closed HE.out).mono ?_
  rintro e w2 ⟨rfl, ⟨chg, clo, hE⟩, hb⟩
  have HB2 : Hid (Below w.heap.size w w2) := HB.out.trans hb
  clear HB hb HE HP hmc hZ
  have e1 := hE.hk
  have e2 := hE.hm
  have e3 := hE.hcl
  have e4 := hE.c1
  have e5 := hE.c2
  have e6 := hE.hg
  clear hE HG
  go_wp2_with fail
  go_ret
  exact ⟨rfl, HB2.out⟩

set_option maxRecDepth 100000 in
set_option maxHeartbeats 1600000 in
theorem law_o1 (k0 m0 : Int) (w : World) (ae : Addr) (hk0 : 0 ≤ k0) (hk1 : k0 ≤ 65535) (hm0 : 0 ≤ m0) (hm1 : m0 ≤ 255) (hm : m0 % 3 = 1) (hw0 : 0 < w.heap.size) (hg : w.cell? ⟨0, 0, none⟩ = some (.iface 78 (.pointer (some ae)))) :
    Calls Ybad.prog 3 #[.int .u16 k0, .int .u8 m0, .bool false] w fun e w' => e = .returned (.bool true) ∧ Below w.heap.size w w' := by
  obtain ⟨kn, hkn⟩ : ∃ kn : Nat, k0 % 512 = (kn : Int) := ⟨(k0 % 512).toNat, by omega⟩
  have hkb : kn ≤ 511 := by omega
  obtain ⟨Z, hZ, hZs, hZ59⟩ := zero67
  have hmc := mk0
  have HP : Hid (Pre w (((((((w.alloc (.cells #[.int .i64 (kn : Int)] 3)).alloc (.cells #[.int .i64 1] 3)).alloc (.chan 0 #[] false 0 0 false)).alloc (.cells ((Z.setIfInBounds 61 (.chan (some (w.heap.size + 1 + 1)))).setIfInBounds 62 (.bool false)) 67)).alloc (.cells #[.pointer (some ⟨(w.heap.size + 1 + 1 + 1), 0, none⟩)] 23)).alloc (.cells #[.string ⟨#[122, 122]⟩] 80)).alloc (.cells #[.int .i64 (kn : Int), .int .i64 0, .int .i64 0, .iface 78 (.pointer (some ⟨(w.heap.size + 1 + 1 + 1 + 1 + 1), 0, none⟩)), .chan none] 73)) (kn : Int) 1 false Z (.chan none)) := pre_new w _ _ _ Z
  have HG : Hid (0 < w.heap.size ∧ w.cell? ⟨0, 0, none⟩ = some (.iface 78 (.pointer (some ae))) ∧ Z.size = 72 ∧ Z[59]? = some (.int .i32 0)) := ⟨hw0, hg, hZs, hZ59⟩
  have hse := same_err
  clear hZ59 hw0 hg
  go_enter Ybad.func3, Ybad.ntmps3
  go_wp2_with fail
  refine (new_calls _ _).mono ?_
  rintro e w1 ⟨rfl, rfl⟩
  go_wp2_with fail
  refine (closed_chan _).mono ?_
  rintro e w2 ⟨rfl, hb, hs, hch⟩
  obtain ⟨f, hf⟩ : ∃ f, (((((((w.alloc (.cells #[.int .i64 (kn : Int)] 3)).alloc (.cells #[.int .i64 1] 3)).alloc (.chan 0 #[] false 0 0 false)).alloc (.cells ((Z.setIfInBounds 61 (.chan (some (w.heap.size + 1 + 1)))).setIfInBounds 62 (.bool false)) 67)).alloc (.cells #[.pointer (some ⟨(w.heap.size + 1 + 1 + 1), 0, none⟩)] 23)).alloc (.cells #[.string ⟨#[122, 122]⟩] 80)).alloc (.cells #[.int .i64 (kn : Int), .int .i64 0, .int .i64 0, .iface 78 (.pointer (some ⟨(w.heap.size + 1 + 1 + 1 + 1 + 1), 0, none⟩)), .chan none] 73)).heap.size = f := ⟨_, rfl⟩
  have hf7 : f = (w.heap.size + 1 + 1 + 1 + 1 + 1 + 1 + 1) := by rw [← hf]; simp only [alloc_heap, Array.size_push]
  rw [hf] at hs hch ⊢
  have HP2 : Hid (Pre w (w2.setCell ⟨(w.heap.size + 1 + 1 + 1 + 1 + 1 + 1), 4, none⟩ (.chan (some f))) (kn : Int) 1 false Z (.chan (some f))) := HP.out.fin hb
  have b6 := (hb.block (w.heap.size + 1 + 1 + 1 + 1 + 1 + 1) (by rw [hf, hf7]; omega)).trans HP.out.b6
  have hx1 : w2.cell? ⟨(w.heap.size + 1 + 1 + 1 + 1 + 1 + 1), 4, none⟩ = some (.chan none) := by simp [World.cell?, b6]
  have hx2 : w2.frozen? ⟨(w.heap.size + 1 + 1 + 1 + 1 + 1 + 1), 4, none⟩ = false := by simp [World.frozen?, b6]
  have HE : Hid (Env ((w2.setCell ⟨(w.heap.size + 1 + 1 + 1 + 1 + 1 + 1), 4, none⟩ (.chan (some f))).alloc (.cells #[.int .i64 0] 3)) w.heap.size (w.heap.size + 1) (w.heap.size + 1 + 1 + 1) (w.heap.size + 1 + 1 + 1 + 1) (w.heap.size + 1 + 1 + 1 + 1 + 1 + 1) w2.heap.size (kn : Int) 1 0 0 0 0 false (.chan (some (w.heap.size + 1 + 1))) (.iface 78 (.pointer (some ⟨(w.heap.size + 1 + 1 + 1 + 1 + 1), 0, none⟩))) (.chan (some f)) (.iface 78 (.pointer (some ae)))) :=
    HP2.out.env_at (size_setCell _ _ _) HG.out.2.2.1 HG.out.2.2.2 HG.out.1 HG.out.2.1 (fun f' e => by
      obtain rfl : f = f' := by simpa using e
      exact ⟨by rw [hf7]; omega, by rw [size_setCell, hs]; omega, (Below.heap_setCell _ _ _ _ (by rw [hf7]; show _ ≠ (w.heap.size + 1 + 1 + 1 + 1 + 1 + 1); omega)).trans hch⟩)
  have HB : Hid (Below w.heap.size w ((w2.setCell ⟨(w.heap.size + 1 + 1 + 1 + 1 + 1 + 1), 4, none⟩ (.chan (some f))).alloc (.cells #[.int .i64 0] 3))) := HP2.out.bl.alloc (by have := HP2.out.sz; omega) _
  have hx3 := HE.out.hn
  clear b6 hb hs hch hf hf7 HP2
  go_wp2_with fail
  refine (await_one (kn := kn) (by omega) HE.out).mono ?_
  rintro e w3 ⟨rfl, ⟨chg, clo, hE⟩, hb3⟩
  clear hx1 hx2 hx3
  have HB2 : Hid (Below w.heap.size w w3) := HB.out.trans hb3
  clear HB hb3 HE HP hmc hZ
  have e1 := hE.hk
  have e2 := hE.hm
  have e3 := hE.hcl
  have e4 := hE.c1
  have e5 := hE.c2
  have e6 := hE.hg
  clear hE HG
  go_wp2_with fail
  go_quiet (fail)
  go_wp2
  go_ret
  exact ⟨by simp, below_drewN HB2.out _⟩

set_option maxRecDepth 100000 in
set_option maxHeartbeats 1600000 in
theorem law_c1 (k0 m0 : Int) (w : World) (ae : Addr) (hk0 : 0 ≤ k0) (hk1 : k0 ≤ 65535) (hm0 : 0 ≤ m0) (hm1 : m0 ≤ 255) (hm : m0 % 3 = 1) (hw0 : 0 < w.heap.size) (hg : w.cell? ⟨0, 0, none⟩ = some (.iface 78 (.pointer (some ae)))) :
    Calls Ybad.prog 3 #[.int .u16 k0, .int .u8 m0, .bool true] w fun e w' => e = .returned (.bool true) ∧ Below w.heap.size w w' := by
  obtain ⟨kn, hkn⟩ : ∃ kn : Nat, k0 % 512 = (kn : Int) := ⟨(k0 % 512).toNat, by omega⟩
  have hkb : kn ≤ 511 := by omega
  obtain ⟨Z, hZ, hZs, hZ59⟩ := zero67
  have hmc := mk0
  have HP : Hid (Pre w (((((((w.alloc (.cells #[.int .i64 (kn : Int)] 3)).alloc (.cells #[.int .i64 1] 3)).alloc (.chan 0 #[] false 0 0 false)).alloc (.cells ((Z.setIfInBounds 61 (.chan (some (w.heap.size + 1 + 1)))).setIfInBounds 62 (.bool true)) 67)).alloc (.cells #[.pointer (some ⟨(w.heap.size + 1 + 1 + 1), 0, none⟩)] 23)).alloc (.cells #[.string ⟨#[122, 122]⟩] 80)).alloc (.cells #[.int .i64 (kn : Int), .int .i64 0, .int .i64 0, .iface 78 (.pointer (some ⟨(w.heap.size + 1 + 1 + 1 + 1 + 1), 0, none⟩)), .chan none] 73)) (kn : Int) 1 true Z (.chan none)) := pre_new w _ _ _ Z
  have HG : Hid (0 < w.heap.size ∧ w.cell? ⟨0, 0, none⟩ = some (.iface 78 (.pointer (some ae))) ∧ Z.size = 72 ∧ Z[59]? = some (.int .i32 0)) := ⟨hw0, hg, hZs, hZ59⟩
  have hse := same_err
  clear hZ59 hw0 hg
  go_enter Ybad.func3, Ybad.ntmps3
  go_wp2_with fail
  refine (new_calls _ _).mono ?_
  rintro e w1 ⟨rfl, rfl⟩
  go_wp2_with fail
  refine (closed_chan _).mono ?_
  rintro e w2 ⟨rfl, hb, hs, hch⟩
  obtain ⟨f, hf⟩ : ∃ f, (((((((w.alloc (.cells #[.int .i64 (kn : Int)] 3)).alloc (.cells #[.int .i64 1] 3)).alloc (.chan 0 #[] false 0 0 false)).alloc (.cells ((Z.setIfInBounds 61 (.chan (some (w.heap.size + 1 + 1)))).setIfInBounds 62 (.bool true)) 67)).alloc (.cells #[.pointer (some ⟨(w.heap.size + 1 + 1 + 1), 0, none⟩)] 23)).alloc (.cells #[.string ⟨#[122, 122]⟩] 80)).alloc (.cells #[.int .i64 (kn : Int), .int .i64 0, .int .i64 0, .iface 78 (.pointer (some ⟨(w.heap.size + 1 + 1 + 1 + 1 + 1), 0, none⟩)), .chan none] 73)).heap.size = f := ⟨_, rfl⟩
  have hf7 : f = (w.heap.size + 1 + 1 + 1 + 1 + 1 + 1 + 1) := by rw [← hf]; simp only [alloc_heap, Array.size_push]
  rw [hf] at hs hch ⊢
  have HP2 : Hid (Pre w (w2.setCell ⟨(w.heap.size + 1 + 1 + 1 + 1 + 1 + 1), 4, none⟩ (.chan (some f))) (kn : Int) 1 true Z (.chan (some f))) := HP.out.fin hb
  have b6 := (hb.block (w.heap.size + 1 + 1 + 1 + 1 + 1 + 1) (by rw [hf, hf7]; omega)).trans HP.out.b6
  have hx1 : w2.cell? ⟨(w.heap.size + 1 + 1 + 1 + 1 + 1 + 1), 4, none⟩ = some (.chan none) := by simp [World.cell?, b6]
  have hx2 : w2.frozen? ⟨(w.heap.size + 1 + 1 + 1 + 1 + 1 + 1), 4, none⟩ = false := by simp [World.frozen?, b6]
  have HE : Hid (Env ((w2.setCell ⟨(w.heap.size + 1 + 1 + 1 + 1 + 1 + 1), 4, none⟩ (.chan (some f))).alloc (.cells #[.int .i64 0] 3)) w.heap.size (w.heap.size + 1) (w.heap.size + 1 + 1 + 1) (w.heap.size + 1 + 1 + 1 + 1) (w.heap.size + 1 + 1 + 1 + 1 + 1 + 1) w2.heap.size (kn : Int) 1 0 0 0 0 true (.chan (some (w.heap.size + 1 + 1))) (.iface 78 (.pointer (some ⟨(w.heap.size + 1 + 1 + 1 + 1 + 1), 0, none⟩))) (.chan (some f)) (.iface 78 (.pointer (some ae)))) :=
    HP2.out.env_at (size_setCell _ _ _) HG.out.2.2.1 HG.out.2.2.2 HG.out.1 HG.out.2.1 (fun f' e => by
      obtain rfl : f = f' := by simpa using e
      exact ⟨by rw [hf7]; omega, by rw [size_setCell, hs]; omega, (Below.heap_setCell _ _ _ _ (by rw [hf7]; show _ ≠ (w.heap.size + 1 + 1 + 1 + 1 + 1 + 1); omega)).trans hch⟩)
  have HB : Hid (Below w.heap.size w ((w2.setCell ⟨(w.heap.size + 1 + 1 + 1 + 1 + 1 + 1), 4, none⟩ (.chan (some f))).alloc (.cells #[.int .i64 0] 3))) := HP2.out.bl.alloc (by have := HP2.out.sz; omega) _
  have hx3 := HE.out.hn
  clear b6 hb hs hch hf hf7 HP2
  go_wp2_with fail
  refine (await_closed HE.out).mono ?_
  rintro e w3 ⟨rfl, ⟨chg, clo, hE⟩, hb3⟩
  clear hx1 hx2 hx3
  have HB2 : Hid (Below w.heap.size w w3) := HB.out.trans hb3
  clear HB hb3 HE HP hmc hZ
  have e1 := hE.hk
  have e2 := hE.hm
  have e3 := hE.hcl
  have e4 := hE.c1
  have e5 := hE.c2
  have e6 := hE.hg
  clear hE HG
  go_wp2_with fail
  go_ret
  exact ⟨rfl, HB2.out⟩

set_option maxRecDepth 100000 in
set_option maxHeartbeats 1600000 in
theorem law_o2 (k0 m0 : Int) (w : World) (ae : Addr) (hk0 : 0 ≤ k0) (hk1 : k0 ≤ 65535) (hm0 : 0 ≤ m0) (hm1 : m0 ≤ 255) (hm : m0 % 3 = 2) (hw0 : 0 < w.heap.size) (hg : w.cell? ⟨0, 0, none⟩ = some (.iface 78 (.pointer (some ae)))) :
    Calls Ybad.prog 3 #[.int .u16 k0, .int .u8 m0, .bool false] w fun e w' => e = .returned (.bool true) ∧ Below w.heap.size w w' := by
  obtain ⟨kn, hkn⟩ : ∃ kn : Nat, k0 % 512 = (kn : Int) := ⟨(k0 % 512).toNat, by omega⟩
  have hkb : kn ≤ 511 := by omega
  obtain ⟨Z, hZ, hZs, hZ59⟩ := zero67
  have hmc := mk0
  have HP : Hid (Pre w (((((((w.alloc (.cells #[.int .i64 (kn : Int)] 3)).alloc (.cells #[.int .i64 2] 3)).alloc (.chan 0 #[] false 0 0 false)).alloc (.cells ((Z.setIfInBounds 61 (.chan (some (w.heap.size + 1 + 1)))).setIfInBounds 62 (.bool false)) 67)).alloc (.cells #[.pointer (some ⟨(w.heap.size + 1 + 1 + 1), 0, none⟩)] 23)).alloc (.cells #[.string ⟨#[122, 122]⟩] 80)).alloc (.cells #[.int .i64 (kn : Int), .int .i64 0, .int .i64 0, .iface 78 (.pointer (some ⟨(w.heap.size + 1 + 1 + 1 + 1 + 1), 0, none⟩)), .chan none] 73)) (kn : Int) 2 false Z (.chan none)) := pre_new w _ _ _ Z
  have HG : Hid (0 < w.heap.size ∧ w.cell? ⟨0, 0, none⟩ = some (.iface 78 (.pointer (some ae))) ∧ Z.size = 72 ∧ Z[59]? = some (.int .i32 0)) := ⟨hw0, hg, hZs, hZ59⟩
  have hse := same_err
  clear hZ59 hw0 hg
  go_enter Ybad.func3, Ybad.ntmps3
  go_wp2_with fail
  refine (new_calls _ _).mono ?_
  rintro e w1 ⟨rfl, rfl⟩
  go_wp2_with fail
  have HE : Hid (Env _ w.heap.size (w.heap.size + 1) (w.heap.size + 1 + 1 + 1) (w.heap.size + 1 + 1 + 1 + 1) (w.heap.size + 1 + 1 + 1 + 1 + 1 + 1) (w.heap.size + 1 + 1 + 1 + 1 + 1 + 1 + 1) (kn : Int) 2 0 0 0 0 false (.chan (some (w.heap.size + 1 + 1))) (.iface 78 (.pointer (some ⟨(w.heap.size + 1 + 1 + 1 + 1 + 1), 0, none⟩))) (.chan none) _) := HP.out.env_at (by simp only [alloc_heap, Array.size_push]) HG.out.2.2.1 HG.out.2.2.2 HG.out.1 HG.out.2.1 (fun f e => by cases e)
  have HB : Hid (Below w.heap.size w _) := HP.out.bl.alloc (by have := HP.out.sz; omega) (.cells #[.int .i64 0] 3)
  refine (await_two (kn := kn) (by omega) HE.out).mono ?_
  rintro e w2 ⟨rfl, ⟨chg, clo, hE⟩, hb⟩
  have HB2 : Hid (Below w.heap.size w w2) := HB.out.trans hb
  clear HB hb HE HP hmc hZ
  have e1 := hE.hk
  have e2 := hE.hm
  have e3 := hE.hcl
  have e4 := hE.c1
  have e5 := hE.c2
  have e6 := hE.hg
  clear hE HG
  go_wp2_with fail
  go_quiet (fail)
  go_wp2
  go_ret
  exact ⟨by simp, below_drewN HB2.out _⟩

set_option maxRecDepth 100000 in
set_option maxHeartbeats 1600000 in
theorem law_c2 (k0 m0 : Int) (w : World) (ae : Addr) (hk0 : 0 ≤ k0) (hk1 : k0 ≤ 65535) (hm0 : 0 ≤ m0) (hm1 : m0 ≤ 255) (hm : m0 % 3 = 2) (hw0 : 0 < w.heap.size) (hg : w.cell? ⟨0, 0, none⟩ = some (.iface 78 (.pointer (some ae)))) :
    Calls Ybad.prog 3 #[.int .u16 k0, .int .u8 m0, .bool true] w fun e w' => e = .returned (.bool true) ∧ Below w.heap.size w w' := by
  obtain ⟨kn, hkn⟩ : ∃ kn : Nat, k0 % 512 = (kn : Int) := ⟨(k0 % 512).toNat, by omega⟩
  have hkb : kn ≤ 511 := by omega
  obtain ⟨Z, hZ, hZs, hZ59⟩ := zero67
  have hmc := mk0
  have HP : Hid (Pre w (((((((w.alloc (.cells #[.int .i64 (kn : Int)] 3)).alloc (.cells #[.int .i64 2] 3)).alloc (.chan 0 #[] false 0 0 false)).alloc (.cells ((Z.setIfInBounds 61 (.chan (some (w.heap.size + 1 + 1)))).setIfInBounds 62 (.bool true)) 67)).alloc (.cells #[.pointer (some ⟨(w.heap.size + 1 + 1 + 1), 0, none⟩)] 23)).alloc (.cells #[.string ⟨#[122, 122]⟩] 80)).alloc (.cells #[.int .i64 (kn : Int), .int .i64 0, .int .i64 0, .iface 78 (.pointer (some ⟨(w.heap.size + 1 + 1 + 1 + 1 + 1), 0, none⟩)), .chan none] 73)) (kn : Int) 2 true Z (.chan none)) := pre_new w _ _ _ Z
  have HG : Hid (0 < w.heap.size ∧ w.cell? ⟨0, 0, none⟩ = some (.iface 78 (.pointer (some ae))) ∧ Z.size = 72 ∧ Z[59]? = some (.int .i32 0)) := ⟨hw0, hg, hZs, hZ59⟩
  have hse := same_err
  clear hZ59 hw0 hg
  go_enter Ybad.func3, Ybad.ntmps3
  go_wp2_with fail
  refine (new_calls _ _).mono ?_
  rintro e w1 ⟨rfl, rfl⟩
  go_wp2_with fail
  have HE : Hid (Env _ w.heap.size (w.heap.size + 1) (w.heap.size + 1 + 1 + 1) (w.heap.size + 1 + 1 + 1 + 1) (w.heap.size + 1 + 1 + 1 + 1 + 1 + 1) (w.heap.size + 1 + 1 + 1 + 1 + 1 + 1 + 1) (kn : Int) 2 0 0 0 0 true (.chan (some (w.heap.size + 1 + 1))) (.iface 78 (.pointer (some ⟨(w.heap.size + 1 + 1 + 1 + 1 + 1), 0, none⟩))) (.chan none) _) := HP.out.env_at (by simp only [alloc_heap, Array.size_push]) HG.out.2.2.1 HG.out.2.2.2 HG.out.1 HG.out.2.1 (fun f e => by cases e)
  have HB : Hid (Below w.heap.size w _) := HP.out.bl.alloc (by have := HP.out.sz; omega) (.cells #[.int .i64 0] 3)
  refine (await_closed HE.out).mono ?_
  rintro e w2 ⟨rfl, ⟨chg, clo, hE⟩, hb⟩
  have HB2 : Hid (Below w.heap.size w w2) := HB.out.trans hb
  clear HB hb HE HP hmc hZ
  have e1 := hE.hk
  have e2 := hE.hm
  have e3 := hE.hcl
  have e4 := hE.c1
  have e5 := hE.c2
  have e6 := hE.hg
  clear hE HG
  go_wp2_with fail
  go_ret
  exact ⟨rfl, HB2.out⟩

/-- the law, whatever the input -/
theorem law_any (k0 m0 : Int) (c : Bool) (w : World) (ae : Addr) (hk0 : 0 ≤ k0) (hk1 : k0 ≤ 65535) (hm0 : 0 ≤ m0) (hm1 : m0 ≤ 255) (hw0 : 0 < w.heap.size) (hg : w.cell? ⟨0, 0, none⟩ = some (.iface 78 (.pointer (some ae)))) :
    Calls Ybad.prog 3 #[.int .u16 k0, .int .u8 m0, .bool c] w fun e w' => e = .returned (.bool true) ∧ Below w.heap.size w w' := by
  have h3 : m0 % 3 = 0 ∨ m0 % 3 = 1 ∨ m0 % 3 = 2 := by omega
  cases c
  · rcases h3 with h | h | h
    · exact law_o0 k0 m0 w ae hk0 hk1 hm0 hm1 h hw0 hg
    · exact law_o1 k0 m0 w ae hk0 hk1 hm0 hm1 h hw0 hg
    · exact law_o2 k0 m0 w ae hk0 hk1 hm0 hm1 h hw0 hg
  · rcases h3 with h | h | h
    · exact law_c0 k0 m0 w ae hk0 hk1 hm0 hm1 h hw0 hg
    · exact law_c1 k0 m0 w ae hk0 hk1 hm0 hm1 h hw0 hg
    · exact law_c2 k0 m0 w ae hk0 hk1 hm0 hm1 h hw0 hg
end Go.Proofs.YbulkckvkDoor
