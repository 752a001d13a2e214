import Derived.Test.Qxb6609384aDoorCon
namespace Go.Proofs.Qxb6609384aDoor
open Go.RowKit
set_option linter.unusedSimpArgs false

theorem wpList_load40 {ops : Array Oper} {rest : List Oper} {op : Oper} {a : Act} {w : World} {Q : Exit → Act → World → Prop} (s : Nat → Int) (l : Int) (z : Option Addr) (p : Int) (b o : Nat) (x : Operand) (hc : w.rangeAt b o (conA s l z p).toList)
    (hgd : op.guard = none) (ho : op.op = .load 40 x) (hx : a.eval x = .pointer (some ⟨b, o, none⟩)) (h : wpList Tryd.prog ops Q rest (a.put op.dst (.agg (conA s l z p))) w) : wpList Tryd.prog ops Q (op :: rest) a w :=
  wpList_load_mid hgd 40 x ho b o hx (conA s l z p).toList _ hc Tryd.underlying40 rfl (sz40 s l z p) h
theorem wpList_store40 {ops : Array Oper} {rest : List Oper} {op : Oper} {a : Act} {w : World} {Q : Exit → Act → World → Prop} (s : Nat → Int) (l : Int) (z : Option Addr) (p : Int) (b o : Nat) (x y : Operand) (ht : w.there b o 24)
    (hgd : op.guard = none) (ho : op.op = .store 40 x y) (hx : a.eval x = .pointer (some ⟨b, o, none⟩)) (hy : a.eval y = .agg (conA s l z p)) (h : wpList Tryd.prog ops Q rest (a.put op.dst undef) (w.setCells b o (conA s l z p).toList)) : wpList Tryd.prog ops Q (op :: rest) a w :=
  wpList_plain hgd fun _ hK => store40 s l z p b o op a x y ho hx hy _ _ ht (hK _ _ h)

set_option maxRecDepth 100000 in
set_option maxHeartbeats 400000 in
theorem bucketContact_any (s : Nat → Int) (l : Int) (z : Option Addr) (p : Int) (tb b bb c : Nat) (hb : b < 160) (w : World) (h : w.cell? ⟨tb, 22 + b, none⟩ = some (.slice (some ⟨bb, 0, none⟩) 1 c)) (hr : w.rangeAt bb 0 (conA s l z p).toList) :
    Calls Tryd.prog 10 #[.pointer (some ⟨tb, 0, none⟩), .int .i64 b, .int .i64 0] w fun e w' => e = .returned (.agg (conA s l z p)) ∧ Below w.heap.size w w' := by
  have h' : (b : Int) < 160 := by omega
  have hlt : tb < w.heap.size := World.block_lt_of_cell? w _ h
  have tok : True := trivial
  have tok2 : True := trivial
  go_enter Tryd.func10, Tryd.ntmps10
  go_wp2_with (first | (have _t := tok; refine wpList_load40 s l z p bb 0 (.tmp 15) (World.rangeAt_alloc hr _) (by rfl) (by rfl) (by rfl) ?_; clear tok) | (have _t := tok2; refine wpList_store40 s l z p w.heap.size 0 (.tmp 6) (.tmp 16) (there_new _ _ _ _ (Nat.le_refl _)) (by rfl) (by rfl) (by rfl) (by rfl) ?_; clear tok2))
  exact bodyPost_ret (v := .agg (conA s l z p)) (results_cell1 Tryd.results10 w.heap.size 0 rfl (run_loadVar_mid _ w.heap.size 0 40 (conA s l z p).toList _ (World.rangeAt_setCells_same _ _ _ _ (there_new _ _ _ _ (Nat.le_refl _))) Tryd.underlying40 rfl (sz40 s l z p))) rfl ⟨rfl, below_setCells (Nat.le_refl _) _ _ _ ((Below.refl _ _).alloc (Nat.le_refl _) _)⟩
end Go.Proofs.Qxb6609384aDoor
