import Derived.Test.YbulkckvkDoorCh
namespace Go.Proofs.YbulkckvkDoor
open Go.RowKit Go.Conc
set_option linter.unusedVariables false

/-- what the law has made: the variables K, m, n, calls in blocks kb, mk, nv, cl; the node in nb; the context in cb -/
structure Env (w : World) (kb mk nb nv cb cl : Nat) (K m calls dones errs mu : Int) (clo : Bool) (chg err fin gv : Value) : Prop where
  hg : w.cell? ⟨0, 0, none⟩ = some (gv)
  hk : w.cell? ⟨kb, 0, none⟩ = some (.int .i64 K)
  hm : w.cell? ⟨mk, 0, none⟩ = some (.int .i64 m)
  hn : w.cell? ⟨nv, 0, none⟩ = some (.pointer (some ⟨nb, 0, none⟩))
  hmu : w.cell? ⟨nb, 59, none⟩ = some (.int .i32 mu)
  hchg : w.cell? ⟨nb, 61, none⟩ = some (chg)
  hclo : w.cell? ⟨nb, 62, none⟩ = some (.bool clo)
  c0 : w.cell? ⟨cb, 0, none⟩ = some (.int .i64 K)
  c1 : w.cell? ⟨cb, 1, none⟩ = some (.int .i64 dones)
  c2 : w.cell? ⟨cb, 2, none⟩ = some (.int .i64 errs)
  c3 : w.cell? ⟨cb, 3, none⟩ = some (err)
  c4 : w.cell? ⟨cb, 4, none⟩ = some (fin)
  hcl : w.cell? ⟨cl, 0, none⟩ = some (.int .i64 calls)
  f1 : w.frozen? ⟨nb, 59, none⟩ = false
  f2 : w.frozen? ⟨nb, 61, none⟩ = false
  f3 : w.frozen? ⟨nb, 62, none⟩ = false
  f4 : w.frozen? ⟨cb, 1, none⟩ = false
  f5 : w.frozen? ⟨cb, 2, none⟩ = false
  f6 : w.frozen? ⟨cl, 0, none⟩ = false
  hfin : ∀ f, fin = .chan (some f) → cb < f ∧ f < cl ∧ w.heap[f]? = some (.chan 0 #[] true 0 0 false)
  l0 : 0 < kb
  l1 : kb < mk
  l2 : mk < nb
  l3 : nb < nv
  l4 : nv < cb
  l5 : cb < cl
  l6 : cl < w.heap.size

theorem other {w : World} {b o b' o' : Nat} {v : Value} (h : b ≠ b' ∨ o ≠ o') : (w.setCell ⟨b, o, none⟩ v).cell? ⟨b', o', none⟩ = w.cell? ⟨b', o', none⟩ :=
  World.cell?_setCell_other _ _ _ _ (fun e => by injection e with e1 e2; rcases h with h | h <;> omega)
theorem size_setCell (w : World) (a : Addr) (v : Value) : (w.setCell a v).heap.size = w.heap.size := by simp [World.setCell]

theorem Env.drewN {w : World} {kb mk nb nv cb cl : Nat} {K m calls dones errs mu : Int} {clo : Bool} {chg err fin gv : Value} (h : Env w kb mk nb nv cb cl K m calls dones errs mu clo chg err fin gv) (q : Nat) : Env (w.drewN q) kb mk nb nv cb cl K m calls dones errs mu clo chg err fin gv := ⟨h.hg, h.hk, h.hm, h.hn, h.hmu, h.hchg, h.hclo, h.c0, h.c1, h.c2, h.c3, h.c4, h.hcl, h.f1, h.f2, h.f3, h.f4, h.f5, h.f6, h.hfin, h.l0, h.l1, h.l2, h.l3, h.l4, h.l5, h.l6⟩
theorem Env.setCalls {w : World} {kb mk nb nv cb cl : Nat} {K m calls dones errs mu : Int} {clo : Bool} {chg err fin gv : Value} (h : Env w kb mk nb nv cb cl K m calls dones errs mu clo chg err fin gv) (x : Int) : Env (w.setCell ⟨cl, 0, none⟩ (.int .i64 x)) kb mk nb nv cb cl K m x dones errs mu clo chg err fin gv := by
  have l0 := h.l0
  have l1 := h.l1
  have l2 := h.l2
  have l3 := h.l3
  have l4 := h.l4
  have l5 := h.l5
  exact ⟨(other (by omega)).trans h.hg, (other (by omega)).trans h.hk, (other (by omega)).trans h.hm, (other (by omega)).trans h.hn, (other (by omega)).trans h.hmu, (other (by omega)).trans h.hchg, (other (by omega)).trans h.hclo, (other (by omega)).trans h.c0, (other (by omega)).trans h.c1, (other (by omega)).trans h.c2, (other (by omega)).trans h.c3, (other (by omega)).trans h.c4, World.cell?_setCell_same _ _ _ h.hcl, by simp [h.f1], by simp [h.f2], by simp [h.f3], by simp [h.f4], by simp [h.f5], by simp [h.f6], fun f e => ⟨(h.hfin f e).1, (h.hfin f e).2.1, (Below.heap_setCell _ _ _ _ (by have h1 := (h.hfin f e).1; have h2 := (h.hfin f e).2.1; show f ≠ cl; omega)).trans (h.hfin f e).2.2⟩, l0, l1, l2, l3, l4, l5, by rw [size_setCell]; exact h.l6⟩
theorem Env.setDones {w : World} {kb mk nb nv cb cl : Nat} {K m calls dones errs mu : Int} {clo : Bool} {chg err fin gv : Value} (h : Env w kb mk nb nv cb cl K m calls dones errs mu clo chg err fin gv) (x : Int) : Env (w.setCell ⟨cb, 1, none⟩ (.int .i64 x)) kb mk nb nv cb cl K m calls x errs mu clo chg err fin gv := by
  have l0 := h.l0
  have l1 := h.l1
  have l2 := h.l2
  have l3 := h.l3
  have l4 := h.l4
  have l5 := h.l5
  exact ⟨(other (by omega)).trans h.hg, (other (by omega)).trans h.hk, (other (by omega)).trans h.hm, (other (by omega)).trans h.hn, (other (by omega)).trans h.hmu, (other (by omega)).trans h.hchg, (other (by omega)).trans h.hclo, (other (by omega)).trans h.c0, World.cell?_setCell_same _ _ _ h.c1, (other (by omega)).trans h.c2, (other (by omega)).trans h.c3, (other (by omega)).trans h.c4, (other (by omega)).trans h.hcl, by simp [h.f1], by simp [h.f2], by simp [h.f3], by simp [h.f4], by simp [h.f5], by simp [h.f6], fun f e => ⟨(h.hfin f e).1, (h.hfin f e).2.1, (Below.heap_setCell _ _ _ _ (by have h1 := (h.hfin f e).1; have h2 := (h.hfin f e).2.1; show f ≠ cb; omega)).trans (h.hfin f e).2.2⟩, l0, l1, l2, l3, l4, l5, by rw [size_setCell]; exact h.l6⟩
theorem Env.setErrs {w : World} {kb mk nb nv cb cl : Nat} {K m calls dones errs mu : Int} {clo : Bool} {chg err fin gv : Value} (h : Env w kb mk nb nv cb cl K m calls dones errs mu clo chg err fin gv) (x : Int) : Env (w.setCell ⟨cb, 2, none⟩ (.int .i64 x)) kb mk nb nv cb cl K m calls dones x mu clo chg err fin gv := by
  have l0 := h.l0
  have l1 := h.l1
  have l2 := h.l2
  have l3 := h.l3
  have l4 := h.l4
  have l5 := h.l5
  exact ⟨(other (by omega)).trans h.hg, (other (by omega)).trans h.hk, (other (by omega)).trans h.hm, (other (by omega)).trans h.hn, (other (by omega)).trans h.hmu, (other (by omega)).trans h.hchg, (other (by omega)).trans h.hclo, (other (by omega)).trans h.c0, (other (by omega)).trans h.c1, World.cell?_setCell_same _ _ _ h.c2, (other (by omega)).trans h.c3, (other (by omega)).trans h.c4, (other (by omega)).trans h.hcl, by simp [h.f1], by simp [h.f2], by simp [h.f3], by simp [h.f4], by simp [h.f5], by simp [h.f6], fun f e => ⟨(h.hfin f e).1, (h.hfin f e).2.1, (Below.heap_setCell _ _ _ _ (by have h1 := (h.hfin f e).1; have h2 := (h.hfin f e).2.1; show f ≠ cb; omega)).trans (h.hfin f e).2.2⟩, l0, l1, l2, l3, l4, l5, by rw [size_setCell]; exact h.l6⟩
theorem Env.setMu {w : World} {kb mk nb nv cb cl : Nat} {K m calls dones errs mu : Int} {clo : Bool} {chg err fin gv : Value} (h : Env w kb mk nb nv cb cl K m calls dones errs mu clo chg err fin gv) (x : Int) : Env (w.setCell ⟨nb, 59, none⟩ (.int .i32 x)) kb mk nb nv cb cl K m calls dones errs x clo chg err fin gv := by
  have l0 := h.l0
  have l1 := h.l1
  have l2 := h.l2
  have l3 := h.l3
  have l4 := h.l4
  have l5 := h.l5
  exact ⟨(other (by omega)).trans h.hg, (other (by omega)).trans h.hk, (other (by omega)).trans h.hm, (other (by omega)).trans h.hn, World.cell?_setCell_same _ _ _ h.hmu, (other (by omega)).trans h.hchg, (other (by omega)).trans h.hclo, (other (by omega)).trans h.c0, (other (by omega)).trans h.c1, (other (by omega)).trans h.c2, (other (by omega)).trans h.c3, (other (by omega)).trans h.c4, (other (by omega)).trans h.hcl, by simp [h.f1], by simp [h.f2], by simp [h.f3], by simp [h.f4], by simp [h.f5], by simp [h.f6], fun f e => ⟨(h.hfin f e).1, (h.hfin f e).2.1, (Below.heap_setCell _ _ _ _ (by have h1 := (h.hfin f e).1; have h2 := (h.hfin f e).2.1; show f ≠ nb; omega)).trans (h.hfin f e).2.2⟩, l0, l1, l2, l3, l4, l5, by rw [size_setCell]; exact h.l6⟩
theorem Env.setClo {w : World} {kb mk nb nv cb cl : Nat} {K m calls dones errs mu : Int} {clo : Bool} {chg err fin gv : Value} (h : Env w kb mk nb nv cb cl K m calls dones errs mu clo chg err fin gv) (x : Bool) : Env (w.setCell ⟨nb, 62, none⟩ (.bool x)) kb mk nb nv cb cl K m calls dones errs mu x chg err fin gv := by
  have l0 := h.l0
  have l1 := h.l1
  have l2 := h.l2
  have l3 := h.l3
  have l4 := h.l4
  have l5 := h.l5
  exact ⟨(other (by omega)).trans h.hg, (other (by omega)).trans h.hk, (other (by omega)).trans h.hm, (other (by omega)).trans h.hn, (other (by omega)).trans h.hmu, (other (by omega)).trans h.hchg, World.cell?_setCell_same _ _ _ h.hclo, (other (by omega)).trans h.c0, (other (by omega)).trans h.c1, (other (by omega)).trans h.c2, (other (by omega)).trans h.c3, (other (by omega)).trans h.c4, (other (by omega)).trans h.hcl, by simp [h.f1], by simp [h.f2], by simp [h.f3], by simp [h.f4], by simp [h.f5], by simp [h.f6], fun f e => ⟨(h.hfin f e).1, (h.hfin f e).2.1, (Below.heap_setCell _ _ _ _ (by have h1 := (h.hfin f e).1; have h2 := (h.hfin f e).2.1; show f ≠ nb; omega)).trans (h.hfin f e).2.2⟩, l0, l1, l2, l3, l4, l5, by rw [size_setCell]; exact h.l6⟩
theorem Env.setChg {w : World} {kb mk nb nv cb cl : Nat} {K m calls dones errs mu : Int} {clo : Bool} {chg err fin gv : Value} (h : Env w kb mk nb nv cb cl K m calls dones errs mu clo chg err fin gv) (x : Value) : Env (w.setCell ⟨nb, 61, none⟩ (x)) kb mk nb nv cb cl K m calls dones errs mu clo x err fin gv := by
  have l0 := h.l0
  have l1 := h.l1
  have l2 := h.l2
  have l3 := h.l3
  have l4 := h.l4
  have l5 := h.l5
  exact ⟨(other (by omega)).trans h.hg, (other (by omega)).trans h.hk, (other (by omega)).trans h.hm, (other (by omega)).trans h.hn, (other (by omega)).trans h.hmu, World.cell?_setCell_same _ _ _ h.hchg, (other (by omega)).trans h.hclo, (other (by omega)).trans h.c0, (other (by omega)).trans h.c1, (other (by omega)).trans h.c2, (other (by omega)).trans h.c3, (other (by omega)).trans h.c4, (other (by omega)).trans h.hcl, by simp [h.f1], by simp [h.f2], by simp [h.f3], by simp [h.f4], by simp [h.f5], by simp [h.f6], fun f e => ⟨(h.hfin f e).1, (h.hfin f e).2.1, (Below.heap_setCell _ _ _ _ (by have h1 := (h.hfin f e).1; have h2 := (h.hfin f e).2.1; show f ≠ nb; omega)).trans (h.hfin f e).2.2⟩, l0, l1, l2, l3, l4, l5, by rw [size_setCell]; exact h.l6⟩
/-- it stands where nothing up to its last block has turned -/
theorem Env.keep {w w' : World} {kb mk nb nv cb cl : Nat} {K m calls dones errs mu : Int} {clo : Bool} {chg err fin gv : Value} (h : Env w kb mk nb nv cb cl K m calls dones errs mu clo chg err fin gv) (hb : Below (cl + 1) w w') : Env w' kb mk nb nv cb cl K m calls dones errs mu clo chg err fin gv := by
  have l0 := h.l0
  have l1 := h.l1
  have l2 := h.l2
  have l3 := h.l3
  have l4 := h.l4
  have l5 := h.l5
  have c : ∀ b o, b ≤ cl → w'.cell? ⟨b, o, none⟩ = w.cell? ⟨b, o, none⟩ := fun b o hl => hb.cell (p := ⟨b, o, none⟩) (by show b < cl + 1; omega)
  have f : ∀ b o, b ≤ cl → w'.frozen? ⟨b, o, none⟩ = w.frozen? ⟨b, o, none⟩ := fun b o hl => hb.frozen (p := ⟨b, o, none⟩) (by show b < cl + 1; omega)
  exact ⟨(c _ _ (by omega)).trans h.hg, (c _ _ (by omega)).trans h.hk, (c _ _ (by omega)).trans h.hm, (c _ _ (by omega)).trans h.hn, (c _ _ (by omega)).trans h.hmu, (c _ _ (by omega)).trans h.hchg, (c _ _ (by omega)).trans h.hclo, (c _ _ (by omega)).trans h.c0, (c _ _ (by omega)).trans h.c1, (c _ _ (by omega)).trans h.c2, (c _ _ (by omega)).trans h.c3, (c _ _ (by omega)).trans h.c4, (c _ _ (by omega)).trans h.hcl, (f _ _ (by omega)).trans h.f1, (f _ _ (by omega)).trans h.f2, (f _ _ (by omega)).trans h.f3, (f _ _ (by omega)).trans h.f4, (f _ _ (by omega)).trans h.f5, (f _ _ (by omega)).trans h.f6, (fun f e => ⟨(h.hfin f e).1, (h.hfin f e).2.1, (hb.block f (by have h2 := (h.hfin f e).2.1; omega)).trans (h.hfin f e).2.2⟩), l0, l1, l2, l3, l4, l5, Nat.lt_of_lt_of_le h.l6 hb.size⟩

end Go.Proofs.YbulkckvkDoor
