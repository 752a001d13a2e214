/-
  The seat's own small kit: a region that draws its order, driven by hand over Derived/OrdersHeld.lean's laws: 'held_take' (an operation that yields its value in every world that meets S comes first), 'held_one' (the only operation that may come up), 'held_done'.
-/
import Derived.Test.Qxb6609384aDoorTab
import Derived.Deep.RegionHeld3
import Derived.Laws.ResultCell
namespace Go.Proofs.Qxb6609384aDoor
open Go.RowKit
set_option linter.unusedSimpArgs false

section
variable {P : Program} {md : Region.Mode} {ops : Array Oper} {Q : Exit → Act → World → Prop} {S : World → Prop}

theorem held_take (i : Nat) {oi : Oper} (dst : Option Tmp) (v : Value) {fuel : Nat} {listed : Array Bool} {a : Act} {w : World} (hi : ops[i]? = some oi) (hd : oi.dst = dst) (hs : Region.noSelect ops = true) (hf : Region.free md ops listed i = true)
    (hr : (Region.ready md ops listed).contains i = true) (hQ : ∀ c a w, Q (.panic c) (a.put dst v) w → Q (.panic c) a w) (hg : Region.wanted oi (yielded ops a.tmps) = true) (hS : S w)
    (hy : ∀ w, S w → (execOp a.eval oi).run P w = .ok (.value v) w) (h : wpAnyH P md ops Q S fuel (listed.setIfInBounds i true) (a.put dst v) w) : wpAnyH P md ops Q S (fuel + 1) listed a w := by
  subst hd
  exact wpAnyH_take hi hs hf hr hQ (.inl ⟨hg, hy⟩) hS h

theorem held_one (i : Nat) {oi : Oper} {fuel : Nat} {listed : Array Bool} {a : Act} {w : World} (hi : ops[i]? = some oi) (hr : Region.ready md ops listed = [i]) (hg : Region.wanted oi (yielded ops a.tmps) = true)
    (h : ∀ K' : Act → World → Prop, Hid (∀ a w, S w → wpAnyH P md ops Q S fuel (listed.setIfInBounds i true) a w → K' a w) → Oper.wp P oi a w K' Q) : wpAnyH P md ops Q S (fuel + 1) listed a w := by
  refine wpAnyH_ready hr (by simp) (AllReadyH.cons hi (fun K' hK => ?_) AllReadyH.nil)
  rw [if_pos hg]
  exact h K' (fun a w hS hW => hK.out a w hS (fun _ => hW))

theorem exec_load {o : Oper} {ρ : Operand → Value} (ty : TypeId) (x : Operand) (ho : o.op = .load ty x) (b off : Nat) (hx : ρ x = .pointer (some ⟨b, off, none⟩)) (cs : List Value) (d : TypeDesc)
    (hu : P.underlying ty = some d) (hd : d.isRow = true) (hi : (P.info? ty).map (·.size) = some cs.length) (w : World) (hc : w.rangeAt b off cs) : (execOp ρ o).run P w = .ok (.value (.agg cs.toArray)) w := by
  unfold execOp
  simp only [ho, hx, Instr.loadAt, Instr.sureAddr, Sem.run_bind, Sem.run_pure, Result.andThen_ok, run_loadVar_mid w b off ty cs d hc hu hd hi]

theorem exec_build {o : Oper} {ρ : Operand → Value} (t : TypeId) (parts : Array (Nat × Operand)) (ho : o.op = .build t parts) (ps : List (Nat × Value)) (cells : Array Value) (hc : P.built t ps = some cells)
    (hp : (parts.map fun (i, x) => (i, ρ x)).toList = ps) (w : World) : (execOp ρ o).run P w = .ok (.value (.agg cells)) w := by
  unfold execOp
  subst hp
  simp only [ho, Sem.run_bind, run_build w t _ cells hc, Result.andThen_ok, Sem.run_pure]

theorem exec_move {o : Oper} {ρ : Operand → Value} (x : Operand) (ho : o.op = .move x) (v : Value) (hv : ρ x = v) (w : World) : (execOp ρ o).run P w = .ok (.value v) w := by
  unfold execOp
  simp only [ho, hv, Sem.run_pure]

theorem wp_store_is {o : Oper} {a : Act} {w : World} {K : Act → World → Prop} (ty : TypeId) (x y : Operand) (ho : o.op = .store ty x y) (b off : Nat) (cells : Array Value) (hx : a.eval x = .pointer (some ⟨b, off, none⟩)) (hy : a.eval y = .agg cells)
    (ht : w.there b off cells.size) (hi : (P.info? ty).map (·.size) = some cells.size) (h1 : ∀ v ∈ cells, v.oneCell' = true) (h : K (a.put o.dst undef) (w.setCells b off cells.toList)) : o.wp P a w K Q :=
  wp_store_mid ty x y ho b off cells hx hy ht hi (Array.all_eq_true_iff_forall_mem.2 h1) h
end

theorem results_cell1 {P : Program} {fn : Func} {p : Tmp} {ty : TypeId} (h : fn.results = #[.cell p ty]) {tmps : Array Value} {w : World} (b o : Nat) (hp : tmps.getD p undef = .pointer (some ⟨b, o, none⟩)) {v : Value}
    (hl : (loadVar ty ⟨b, o, none⟩).run P w = .ok v w) : (results fn tmps).run P w = .ok v w := by
  have hp' : tmps[p]?.getD undef = .pointer (some ⟨b, o, none⟩) := by simpa using hp
  simp only [results, h]
  simp [Sem.run_bind, Result.andThen, hp', asAddr, hl]
theorem results_cell2 {P : Program} {fn : Func} {p u : Tmp} {ty : TypeId} (h : fn.results = #[.cell p ty, .tmp u]) {tmps : Array Value} {w : World} (b o : Nat) (hp : tmps.getD p undef = .pointer (some ⟨b, o, none⟩)) {v x : Value}
    (hx : tmps.getD u undef = x) (hl : (loadVar ty ⟨b, o, none⟩).run P w = .ok v w) : (results fn tmps).run P w = .ok (.tuple #[v, x]) w := by
  rw [results_cell_tmp h, hp, hx]
  simp [asAddr, hl]

theorem range_below {W w' : World} {b o : Nat} {cs : List Value} (h : W.rangeAt b o cs) (hb : Below W.heap.size W w') : w'.rangeAt b o cs := fun j v hv =>
  (hb.cell (World.block_lt_of_cell? W _ (h j v hv))).trans (h j v hv)
theorem there_below {W w' : World} {b o n : Nat} (h : W.there b o n) (hb : Below W.heap.size W w') : w'.there b o n := fun j hj => by
  obtain ⟨h1, h2⟩ := h j hj
  obtain ⟨u, hu⟩ := Option.isSome_iff_exists.1 h1
  have hl := World.block_lt_of_cell? W _ hu
  exact ⟨by rw [hb.cell (p := ⟨b, o + j, none⟩) hl]; exact h1, by rw [hb.frozen (p := ⟨b, o + j, none⟩) hl]; exact h2⟩
theorem cell_below {W w' : World} {a : Addr} {v : Value} (h : W.cell? a = some v) (hb : Below W.heap.size W w') : w'.cell? a = some v := (hb.cell (World.block_lt_of_cell? W _ h)).trans h
theorem below_setCells {B : Nat} {w0 : World} {b : Nat} (hb : B ≤ b) : ∀ (cs : List Value) (o : Nat) (w : World), Below B w0 w → Below B w0 (w.setCells b o cs)
  | [], _, _, h => h
  | v :: r, o, w, h => by
    rw [World.setCells]
    exact below_setCells hb r (o + 1) _ (h.setCell (p := ⟨b, o, none⟩) hb v)
theorem cell_apart {w : World} {b o : Nat} {cs : List Value} {a : Addr} {v : Value} (h : w.cell? a = some v) (hb : a.block ≠ b) : (w.setCells b o cs).cell? a = some v := by
  rw [World.cell?_setCells_out _ _ _ _ _ (fun h _ => absurd h hb)]
  exact h
theorem there_new (w : World) (C : Array Value) (t : TypeId) (n : Nat) (hn : n ≤ C.size) : (w.alloc (.cells C t)).there w.heap.size 0 n := fun j hj => by
  simp only [Nat.zero_add]
  exact ⟨by simp; omega, by simp [World.frozen?_alloc_new]⟩
theorem range_new' {w : World} {C : Array Value} {t : TypeId} {n : Nat} (hn : n = w.heap.size) : (w.alloc (.cells C t)).rangeAt n 0 C.toList := by subst hn; exact range_new w C t
theorem there_new' {w : World} {C : Array Value} {t : TypeId} {n m : Nat} (hn : n = w.heap.size) (hm : m ≤ C.size) : (w.alloc (.cells C t)).there n 0 m := by subst hn; exact there_new w C t m hm
theorem there_drew' {w : World} {b o n : Nat} (h : w.there b o n) : w.drew.there b o n := h
theorem range_drew' {w : World} {b o : Nat} {cs : List Value} (h : w.rangeAt b o cs) : w.drew.rangeAt b o cs := h
end Go.Proofs.Qxb6609384aDoor
