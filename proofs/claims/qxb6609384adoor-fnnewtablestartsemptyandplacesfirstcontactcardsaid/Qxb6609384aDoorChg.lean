import Derived.Test.Qxb6609384aDoorKit
import Derived.Lib.AppendZerosOnto
import Derived.BigRegion
import Derived.Deep.RegionLaw
namespace Go.Proofs.Qxb6609384aDoor
open Go.RowKit
set_option linter.unusedSimpArgs false

theorem Tryd.info46 : (Tryd.prog.info? 46).map (fun i => (i.zero, i.size, i.bytes)) = some (some (.agg #[.int .u64 0, .int .i64 0, .pointer none]), 3, 24) := by kernel_rfl
theorem exec_load1 {P : Program} {o : Oper} {ρ : Operand → Value} (ty : TypeId) (x : Operand) (ho : o.op = .load ty x) (p : Addr) (hx : ρ x = .pointer (some p)) (d : TypeDesc)
    (hu : P.underlying ty = some d) (hd : d.isRow = false) {v : Value} (w : World) (hc : w.cell? p = some v) : (execOp ρ o).run P w = .ok (.value v) w := by
  have hagg : (isAgg ty).run P w = .ok false w := by
    unfold isAgg
    rw [Sem.run_bind, run_underlying hu w]
    cases d <;> simp_all
  have hl : (loadVar ty p).run P w = .ok v w := by
    simp [loadVar, Sem.run_bind, hagg, hc]
  unfold execOp
  simp only [ho, hx, Instr.loadAt, Instr.sureAddr, Sem.run_bind, Sem.run_pure, Result.andThen_ok, hl]

theorem wp_append2 {P : Program} {o : Oper} {a : Act} {w w' : World} {K : Act → World → Prop} {Q : Exit → Act → World → Prop} (t1 t2 : TypeId) (x y : Operand) (ho : o.op = .call { callee := .builtin .append, args := #[x, y], argTypes := #[t1, t2] })
    (vx vy v : Value) (hx : a.eval x = vx) (hy : a.eval y = vy) (hrun : ∀ ty, (Builtin.append_ #[t1, t2] ty #[vx, vy]).run P w = .ok v w') (h : K (a.put o.dst v) w') : o.wp P a w K Q := by
  unfold Oper.wp
  simp [execOp, ho, resolve, invoke, builtin, hx, hy, hrun, Result.andThen]
  exact h

theorem step_append2 {P : Program} {ops : Array Oper} {o : Oper} {a : Act} {w w' : World} {K : Act → World → Prop} {Q : Exit → Act → World → Prop} {E : Prop} (t1 t2 : TypeId) (x y : Operand) (hg : o.guard = none) (ho : o.op = .call { callee := .builtin .append, args := #[x, y], argTypes := #[t1, t2] })
    (vx vy v : Value) (hx : a.eval x = vx) (hy : a.eval y = vy) (hrun : ∀ ty, (Builtin.append_ #[t1, t2] ty #[vx, vy]).run P w = .ok v w') (h : K (a.put o.dst v) w') : if Region.wanted o (yielded ops a.tmps) = true then Oper.wp P o a w K Q else E := by
  have hw : Region.wanted o (yielded ops a.tmps) = true := by simp [Region.wanted, hg]
  rw [if_pos hw]
  exact wp_append2 t1 t2 x y ho vx vy v hx hy hrun h

theorem set_here {w : World} {a : Addr} {v u : Value} (h : w.cell? a = some v) : (w.setCell a u).cell? a = some u := World.cell?_setCell_same _ _ _ h
theorem zeros46 (W : World) (b : Nat) (hb : b < 160) : ∃ cap Z, (∀ ty, (Builtin.append_ #[54, 3] ty #[.slice none 0 0, .int .i64 ((b : Int) + 1)]).run Tryd.prog W = .ok (.slice (some ⟨W.heap.size, 0, none⟩) (b + 1) cap) (W.drew.alloc (.cells Z 46))) ∧ Z.size = cap * 3 ∧ b + 1 ≤ cap := by
  obtain ⟨i, hi, hz0, hz1, hz2⟩ := info_parts Tryd.info46
  have h := fun ty => Lib.run_append_grow_zeros (P := Tryd.prog) W 54 3 ty 46 i _ .i64 .i64 Tryd.underlying54 Tryd.underlying3 hi hz0 none 0 0 [] (run_firstCells_none _ _ _ _ _) (b + 1) (by omega) (by rw [hz1]; omega) (by omega) (by omega) (by rw [hz2]; omega) (by rw [hz2, nextslicecap_zero (by omega)]; omega)
  have hge := grownCap_ge W (0 + (b + 1)) 0 46
  have e : ((b + 1 : Nat) : Int) = (b : Int) + 1 := by omega
  rw [e] at h
  generalize hC : grownCap W (0 + (b + 1)) 0 46 = C at h hge
  have hz : ((#[] : Array Value) ++ Builtin.zeroCells (Value.agg #[.int .u64 0, .int .i64 0, .pointer none]).cells (b + 1) ++ Builtin.zeroCells (Value.agg #[.int .u64 0, .int .i64 0, .pointer none]).cells (C - (0 + (b + 1)))).size = C * 3 := by
    simp only [Array.size_append, size_zeroCells, Value.cells]
    show 0 + (b + 1) * 3 + _ * 3 = _
    omega
  exact ⟨C, _, fun ty => by rw [h ty, Nat.zero_add], hz, by omega⟩

theorem grownBy_alloc {w w1 : World} {row : Option Nat} (h : w.grownBy w1 row) (o : Obj) : w.grownBy (w1.alloc o) row :=
  ⟨h.os, h.tape, h.output, Nat.le_trans h.size (by simp), fun k hk hr => (Below.heap_alloc w1 o k (Nat.lt_of_lt_of_le hk h.size)).trans (h.block k hk hr)⟩
theorem grownBy_drew {w w1 : World} {row : Option Nat} (h : w.grownBy w1 row) : w.grownBy w1.drew row := ⟨h.os, h.tape, h.output, h.size, h.block⟩
theorem grownBy_set {w w1 : World} {tb : Nat} (h : w.grownBy w1 (some tb)) {a : Addr} (ha : a.block = tb ∨ w.heap.size ≤ a.block) (v : Value) : w.grownBy (w1.setCell a v) (some tb) :=
  ⟨h.os, h.tape, h.output, by simpa using h.size, fun k hk hr => (Below.heap_setCell w1 a v k (fun e => by rcases ha with ha | ha; exact hr (by rw [e, ha]); omega)).trans (h.block k hk hr)⟩
theorem grownBy_refl (w : World) (row : Option Nat) : w.grownBy w row := ⟨rfl, rfl, rfl, Nat.le_refl _, fun _ _ _ => rfl⟩

theorem chg_mid (w W : World) (x y : Int) (tb b cap : Nat) (Z : Array Value) (hW : w.alloc (.cells #[.int .u64 x, .int .i64 y, .pointer none] 46) = W) (hlt : tb < w.heap.size) (hcW : W.cell? ⟨tb, 182, none⟩ = some (.slice none 0 0)) (hZ : Z.size = cap * 3) (hcap : b + 1 ≤ cap) :
    ∃ (W3 : World) (g : Nat) (u0 u1 u2 : Value), W3 = ((W.setCell ⟨tb, 182, none⟩ (.slice (some ⟨W.heap.size, 0, none⟩) (b + 1) cap)).alloc (.cells Z 46)).drew.drew ∧ g = W.heap.size ∧
      W3.cell? ⟨tb, 182, none⟩ = some (.slice (some ⟨g, 0, none⟩) (b + 1) cap) ∧ W3.cell? ⟨g, b * 3, none⟩ = some u0 ∧ W3.cell? ⟨g, b * 3 + 1, none⟩ = some u1 ∧ W3.cell? ⟨g, b * 3 + 2, none⟩ = some u2 ∧ tb ≠ g ∧ w.heap.size ≠ g ∧ (∀ j, W3.frozen? ⟨g, j, none⟩ = false) ∧
      W3.cell? ⟨w.heap.size, 0, none⟩ = some (.int .u64 x) ∧ W3.cell? ⟨w.heap.size, 1, none⟩ = some (.int .i64 y) ∧ W3.cell? ⟨w.heap.size, 2, none⟩ = some (.pointer none) ∧
      w.grownBy W3 (some tb) ∧ (∀ i, i ≠ 182 → W3.cell? ⟨tb, i, none⟩ = w.cell? ⟨tb, i, none⟩) ∧ (∀ i, W3.frozen? ⟨tb, i, none⟩ = w.frozen? ⟨tb, i, none⟩) ∧ w.heap.size ≤ g := by
  have hs : W.heap.size = w.heap.size + 1 := by rw [← hW]; simp
  have hltW : tb < W.heap.size := by omega
  have row : ∀ j, j < cap * 3 → ∃ v, (((W.setCell ⟨tb, 182, none⟩ (.slice (some ⟨W.heap.size, 0, none⟩) (b + 1) cap)).alloc (.cells Z 46)).drew.drew).cell? ⟨W.heap.size, j, none⟩ = some v := fun j hj => by
    refine ⟨Z[j]'(by omega), ?_⟩
    show ((W.setCell ⟨tb, 182, none⟩ (.slice (some ⟨W.heap.size, 0, none⟩) (b + 1) cap)).alloc (.cells Z 46)).cell? _ = _
    rw [World.cell?_alloc_at _ _ _ _ (by simp), Array.getElem?_eq_getElem]
  have now : ∀ j v, (#[.int .u64 x, .int .i64 y, .pointer none] : Array Value)[j]? = some v → (((W.setCell ⟨tb, 182, none⟩ (.slice (some ⟨W.heap.size, 0, none⟩) (b + 1) cap)).alloc (.cells Z 46)).drew.drew).cell? ⟨w.heap.size, j, none⟩ = some v := fun j v hv => by
    show ((W.setCell ⟨tb, 182, none⟩ (.slice (some ⟨W.heap.size, 0, none⟩) (b + 1) cap)).alloc (.cells Z 46)).cell? _ = _
    rw [World.cell?_alloc_lt _ _ _ (by simp; omega), World.cell?_setCell_other _ _ _ _ (by intro h; simp only [Addr.mk.injEq] at h; omega), ← hW, World.cell?_alloc_at _ _ _ _ rfl]; exact hv
  obtain ⟨u0, r0⟩ := row (b * 3) (by omega)
  obtain ⟨u1, r1⟩ := row (b * 3 + 1) (by omega)
  obtain ⟨u2, r2⟩ := row (b * 3 + 2) (by omega)
  refine ⟨_, W.heap.size, u0, u1, u2, rfl, rfl, ?_, r0, r1, r2, by omega, by omega, fun j => ?_, now 0 _ rfl, now 1 _ rfl, now 2 _ rfl, ?_, fun i hi => ?_, fun i => ?_, by omega⟩
  · show ((W.setCell ⟨tb, 182, none⟩ (.slice (some ⟨W.heap.size, 0, none⟩) (b + 1) cap)).alloc (.cells Z 46)).cell? _ = _
    rw [World.cell?_alloc_lt _ _ _ (by simp; omega)]
    exact set_here hcW
  · show ((W.setCell ⟨tb, 182, none⟩ (.slice (some ⟨W.heap.size, 0, none⟩) (b + 1) cap)).alloc (.cells Z 46)).frozen? _ = _
    rw [World.frozen?_alloc_at _ _ _ _ (by simp)]
  · refine grownBy_drew (grownBy_drew (grownBy_alloc (grownBy_set ?_ (.inl rfl) _) _))
    rw [← hW]; exact grownBy_alloc (grownBy_refl _ _) _
  · show ((W.setCell ⟨tb, 182, none⟩ (.slice (some ⟨W.heap.size, 0, none⟩) (b + 1) cap)).alloc (.cells Z 46)).cell? _ = _
    rw [World.cell?_alloc_lt _ _ _ (by simp; omega), World.cell?_setCell_other _ _ _ _ (by intro h; simp only [Addr.mk.injEq] at h; omega), ← hW, World.cell?_alloc_lt _ _ _ hlt]
  · show ((W.setCell ⟨tb, 182, none⟩ (.slice (some ⟨W.heap.size, 0, none⟩) (b + 1) cap)).alloc (.cells Z 46)).frozen? _ = _
    rw [World.frozen?_alloc_past _ _ _ (by simp; omega), World.frozen?_setCell, ← hW, World.frozen?_alloc_past _ _ _ hlt]

theorem chg_end {w W3 : World} {tb g o0 o1 o2 : Nat} {v0 v1 v2 : Value} (h1 : w.grownBy W3 (some tb)) (h2 : ∀ i, i ≠ 182 → W3.cell? ⟨tb, i, none⟩ = w.cell? ⟨tb, i, none⟩) (h3 : ∀ i, W3.frozen? ⟨tb, i, none⟩ = w.frozen? ⟨tb, i, none⟩) (hne : tb ≠ g) (hg : w.heap.size ≤ g) :
    w.grownBy (((W3.setCell ⟨g, o0, none⟩ v0).setCell ⟨g, o1, none⟩ v1).setCell ⟨g, o2, none⟩ v2).drew (some tb) ∧
      (∀ i, i ≠ 182 → (((W3.setCell ⟨g, o0, none⟩ v0).setCell ⟨g, o1, none⟩ v1).setCell ⟨g, o2, none⟩ v2).drew.cell? ⟨tb, i, none⟩ = w.cell? ⟨tb, i, none⟩) ∧
      (∀ i, (((W3.setCell ⟨g, o0, none⟩ v0).setCell ⟨g, o1, none⟩ v1).setCell ⟨g, o2, none⟩ v2).drew.frozen? ⟨tb, i, none⟩ = w.frozen? ⟨tb, i, none⟩) := by
  refine ⟨grownBy_drew (grownBy_set (grownBy_set (grownBy_set h1 (.inr hg) _) (.inr hg) _) (.inr hg) _), fun i hi => ?_, fun i => ?_⟩
  · show (((W3.setCell ⟨g, o0, none⟩ v0).setCell ⟨g, o1, none⟩ v1).setCell ⟨g, o2, none⟩ v2).cell? _ = _
    rw [World.cell?_setCell_other _ _ _ _ (by intro h; simp only [Addr.mk.injEq] at h; omega), World.cell?_setCell_other _ _ _ _ (by intro h; simp only [Addr.mk.injEq] at h; omega), World.cell?_setCell_other _ _ _ _ (by intro h; simp only [Addr.mk.injEq] at h; omega)]
    exact h2 i hi
  · show (((W3.setCell ⟨g, o0, none⟩ v0).setCell ⟨g, o1, none⟩ v1).setCell ⟨g, o2, none⟩ v2).frozen? _ = _
    rw [World.frozen?_setCell, World.frozen?_setCell, World.frozen?_setCell]
    exact h3 i

set_option maxRecDepth 100000 in
set_option maxHeartbeats 800000 in
theorem change_any (x y : Int) (tb b : Nat) (hb : b < 160) (w : World) (hc : w.cell? ⟨tb, 182, none⟩ = some (.slice none 0 0)) (hf : w.frozen? ⟨tb, 182, none⟩ = false) :
    Calls Tryd.prog 18 #[.pointer (some ⟨tb, 0, none⟩), .int .i64 b, .agg #[.int .u64 x, .int .i64 y, .pointer none]] w fun e w' => e = .returned (.tuple #[]) ∧ w.grownBy w' (some tb) ∧ (∀ i, i ≠ 182 → w'.cell? ⟨tb, i, none⟩ = w.cell? ⟨tb, i, none⟩) ∧ (∀ i, w'.frozen? ⟨tb, i, none⟩ = w.frozen? ⟨tb, i, none⟩) := by
  have hlt : tb < w.heap.size := World.block_lt_of_cell? w _ hc
  go_enter Tryd.func18, Tryd.ntmps18
  go_wp2
  have hcW : (w.alloc (.cells #[.int .u64 x, .int .i64 y, .pointer none] 46)).cell? ⟨tb, 182, none⟩ = some (.slice none 0 0) := by rw [World.cell?_alloc_lt _ _ _ hlt]; exact hc
  have hfW : (w.alloc (.cells #[.int .u64 x, .int .i64 y, .pointer none] 46)).frozen? ⟨tb, 182, none⟩ = false := by rw [World.frozen?_alloc_past _ _ _ hlt]; exact hf
  generalize hW : w.alloc (.cells #[.int .u64 x, .int .i64 y, .pointer none] 46) = W at hcW hfW ⊢
  obtain ⟨cap, Z, hrun, hZ, hcap⟩ := zeros46 W.drew b hb
  have HR : Hid (∀ ty, (Builtin.append_ #[54, 3] ty #[.slice none 0 0, .int .i64 ((b : Int) + 1)]).run Tryd.prog W.drew = .ok (.slice (some ⟨W.drew.heap.size, 0, none⟩) (b + 1) cap) (W.drew.drew.alloc (.cells Z 46))) := hrun
  clear hrun
  have hlt1 : tb < W.heap.size := World.block_lt_of_cell? W _ hcW
  have hwr : IntKind.i64.wrap ((b : Int) + 1) = (b : Int) + 1 := by rw [IntKind.wrap_i64]; omega
  clear hc hf
  go_region_law (refine step_append2 54 3 (.tmp 17) (.tmp 25) rfl rfl _ _ _ (by simp [Act.eval, Act.put]) (by simp [Act.eval, Act.put]) HR.out ?_)
  all_goals
    obtain ⟨W3, g, u0, u1, u2, hW3, hg, k0, k1, k2, k3, k4, k5, fr, n0, n1, n2, G1, G2, G3, G4⟩ := chg_mid w W x y tb b cap Z hW hlt hcW hZ hcap
    rw [← hW3]
    clear hW3 HR hcW hfW hW
    have HG : Hid (w.grownBy W3 (some tb)) := G1
    have HC : Hid (∀ i, i ≠ 182 → W3.cell? ⟨tb, i, none⟩ = w.cell? ⟨tb, i, none⟩) := G2
    have HF : Hid (∀ i, W3.frozen? ⟨tb, i, none⟩ = w.frozen? ⟨tb, i, none⟩) := G3
    clear G1 G2 G3
    clear hg hlt1 hwr hZ
    have z0 := fr (b * 3)
    have z1 := fr (b * 3 + 1)
    have z2 := fr (b * 3 + 2)
    clear fr
    have hb2 : (b : Int) < (b : Int) + 1 := by omega
    go_wp2
    go_region
    all_goals
      go_end0
      exact ⟨rfl, chg_end HG.out HC.out HF.out k4 G4⟩
end Go.Proofs.Qxb6609384aDoor
