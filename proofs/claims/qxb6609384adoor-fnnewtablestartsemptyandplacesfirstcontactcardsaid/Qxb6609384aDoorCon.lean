import Derived.Test.Qxb6609384aDoorTab
import Derived.Test.Qxb6609384aDoorKit
namespace Go.Proofs.Qxb6609384aDoor
open Go.RowKit
set_option linter.unusedSimpArgs false

/-- 24 cells: a contact. -/
def conA (s : Nat → Int) (l : Int) (z : Option Addr) (p : Int) : Array Value := idA s ++ #[.int .u64 0, .int .u64 l, .pointer z, .int .u16 p]

theorem bucketLen_any (tb b : Nat) (a : Option Addr) (n c : Nat) (hb : b < 160) (w : World) (h : w.cell? ⟨tb, 22 + b, none⟩ = some (.slice a n c)) :
    Calls Tryd.prog 5 #[.pointer (some ⟨tb, 0, none⟩), .int .i64 b] w fun e w' => e = .returned (.int .i64 n) ∧ w' = w := by
  have h' : (b : Int) < 160 := by omega
  go_enter Tryd.func5, Tryd.ntmps5
  go_wp2
  go_ret
  exact ⟨rfl, rfl⟩

theorem from4_any (x0 x1 x2 x3 : Int) (z : Option Addr) (w : World) (hz : w.cell? ⟨0, 0, none⟩ = some (.pointer z)) :
    Calls Tryd.prog 13 #[.agg #[.int .u8 x0, .int .u8 x1, .int .u8 x2, .int .u8 x3]] w fun e w' => ∃ l, e = .returned (.agg #[.int .u64 0, .int .u64 l, .pointer z]) ∧ Below w.heap.size w w' := by
  have h0 : 0 < w.heap.size := World.block_lt_of_cell? w _ hz
  go_enter Tryd.func13, Tryd.ntmps13
  go_wp2
  exact bodyPost_ret (v := .agg #[.int .u64 0, .int .u64 (bits BinOp.or IntKind.u64 (bits BinOp.or IntKind.u64 (bits BinOp.or IntKind.u64 (bits BinOp.or IntKind.u64 281470681743360 (IntKind.u64.wrap (IntKind.u64.wrap x0 * 16777216))) (IntKind.u64.wrap (IntKind.u64.wrap x1 * 65536))) (IntKind.u64.wrap (IntKind.u64.wrap x2 * 256))) (IntKind.u64.wrap x3)), .pointer z]) (by simp [results, Tryd.results13, go_sem]) rfl ⟨_, rfl, (((Below.refl _ _).alloc (Nat.le_refl _) _).alloc (by simp) _)⟩

theorem portFrom_any (l p : Int) (z : Option Addr) (w : World) :
    Calls Tryd.prog 12 #[.agg #[.int .u64 0, .int .u64 l, .pointer z], .int .u16 p] w fun e w' => e = .returned (.agg #[.int .u64 0, .int .u64 l, .pointer z, .int .u16 p]) ∧ Below w.heap.size w w' := by
  go_enter Tryd.func12, Tryd.ntmps12
  go_wp2
  exact bodyPost_ret (v := .agg #[.int .u64 0, .int .u64 l, .pointer z, .int .u16 p]) (by simp [results, Tryd.results12, go_sem]) rfl ⟨rfl, (((Below.refl _ _).alloc (Nat.le_refl _) _).alloc (by simp) _)⟩

theorem bld40 (s : Nat → Int) (l : Int) (z : Option Addr) (p : Int) : Tryd.prog.built 40 [(0, .agg (idA s)), (1, .agg #[.int .u64 0, .int .u64 l, .pointer z, .int .u16 p])] = some (conA s l z p) := by kernel_rfl
theorem Tryd.size40 : (Tryd.prog.info? 40).map (·.size) = some 24 := by kernel_rfl
theorem sz40 (s : Nat → Int) (l : Int) (z : Option Addr) (p : Int) : (Tryd.prog.info? 40).map (·.size) = some (conA s l z p).toList.length := by simpa [conA, idA] using Tryd.size40

theorem conA_size (s : Nat → Int) (l : Int) (z : Option Addr) (p : Int) : (conA s l z p).size = 24 := rfl
theorem conA_len (s : Nat → Int) (l : Int) (z : Option Addr) (p : Int) : (conA s l z p).toList.length = 24 := rfl
theorem conA_one (s : Nat → Int) (l : Int) (z : Option Addr) (p : Int) : ∀ v ∈ conA s l z p, v.oneCell' = true := by
  intro v hv
  simp [conA, idA] at hv
  rcases hv with rfl | rfl | rfl | rfl | rfl | rfl | rfl | rfl | rfl | rfl | rfl | rfl | rfl | rfl | rfl | rfl | rfl | rfl | rfl | rfl | rfl | rfl | rfl | rfl <;> rfl
/-- The store of a whole contact. -/
theorem store40 (s : Nat → Int) (l : Int) (z : Option Addr) (p : Int) (b off : Nat) (o : Oper) (a : Act) (x y : Operand) (h1 : o.op = .store 40 x y) (h2 : a.eval x = .pointer (some ⟨b, off, none⟩)) (h3 : a.eval y = .agg (conA s l z p)) {w : World} (K : Act → World → Prop) (Q : Exit → Act → World → Prop)
    (ht : w.there b off 24) (h4 : K (a.put o.dst undef) (w.setCells b off (conA s l z p).toList)) : o.wp Tryd.prog a w K Q := by
  have ht2 : w.there b off (conA s l z p).size := by rw [conA_size]; exact ht
  have hi2 : (Tryd.prog.info? 40).map (·.size) = some (conA s l z p).size := by rw [conA_size]; exact Tryd.size40
  exact wp_store_is (Q := Q) (K := K) 40 x y h1 b off (conA s l z p) h2 h3 ht2 hi2 (conA_one s l z p) h4
theorem Tryd.size23 : (Tryd.prog.info? 23).map (·.size) = some 4 := by kernel_rfl

/-- What the region of ZZContact finds. -/
def SC (n : Nat) (s : Nat → Int) (x0 x1 x2 x3 : Int) (z : Option Addr) (w0 w : World) : Prop :=
  w.rangeAt n 0 (idA s).toList ∧ w.rangeAt (n + 1) 0 [.int .u8 x0, .int .u8 x1, .int .u8 x2, .int .u8 x3] ∧ w.there (n + 1 + 1) 0 24 ∧ w.cell? ⟨0, 0, none⟩ = some (.pointer z) ∧ Below n w0 w ∧ n ≤ w.heap.size
theorem SC.drew {n : Nat} {s : Nat → Int} {x0 x1 x2 x3 : Int} {z : Option Addr} {w0 w : World} (h : SC n s x0 x1 x2 x3 z w0 w) : SC n s x0 x1 x2 x3 z w0 w.drew :=
  ⟨h.1, h.2.1, h.2.2.1, h.2.2.2.1, h.2.2.2.2.1.drew, h.2.2.2.2.2⟩
theorem SC.set {n : Nat} {s : Nat → Int} {x0 x1 x2 x3 : Int} {z : Option Addr} {w0 w : World} (h : SC n s x0 x1 x2 x3 z w0 w) (_hn : 0 < n) {cs : List Value} : SC n s x0 x1 x2 x3 z w0 (w.setCells (n + 1 + 1) 0 cs) := by
  obtain ⟨h1, h2, h3, h4, h5, h6⟩ := h
  exact ⟨World.rangeAt_setCells_apart h1 _ _ _ (by omega), World.rangeAt_setCells_apart h2 _ _ _ (by omega), World.there_setCells h3 _ _ _, cell_apart h4 (by simp), below_setCells (by omega) _ _ _ h5, Nat.le_trans h6 (below_setCells (Nat.zero_le _) _ _ _ (Below.refl 0 w)).size⟩
theorem SC.below {n : Nat} {s : Nat → Int} {x0 x1 x2 x3 : Int} {z : Option Addr} {w0 w w' : World} (hb : Below w.heap.size w w') (h : SC n s x0 x1 x2 x3 z w0 w) : SC n s x0 x1 x2 x3 z w0 w' := by
  obtain ⟨h1, h2, h3, h4, h5, h6⟩ := h
  exact ⟨range_below h1 hb, range_below h2 hb, there_below h3 hb, cell_below h4 hb, h5.trans (hb.mono h6), Nat.le_trans h6 hb.size⟩

set_option maxHeartbeats 1000000 in
theorem contact_any (s : Nat → Int) (x0 x1 x2 x3 p : Int) (z : Option Addr) (w : World) (hz : w.cell? ⟨0, 0, none⟩ = some (.pointer z)) :
    Calls Tryd.prog 6 #[.agg (idA s), .agg #[.int .u8 x0, .int .u8 x1, .int .u8 x2, .int .u8 x3], .int .u16 p] w fun e w' => ∃ l, e = .returned (.agg (conA s l z p)) ∧ Below w.heap.size w w' := by
  have h0 : 0 < w.heap.size := World.block_lt_of_cell? w _ hz
  go_enter Tryd.func6, Tryd.ntmps6
  go_wp2
  have hS : SC w.heap.size s x0 x1 x2 x3 z w (((w.alloc (.cells (idA s) 27)).alloc (.cells #[.int .u8 x0, .int .u8 x1, .int .u8 x2, .int .u8 x3] 23)).alloc (.cells #[.int .u8 0, .int .u8 0, .int .u8 0, .int .u8 0, .int .u8 0, .int .u8 0, .int .u8 0, .int .u8 0, .int .u8 0, .int .u8 0, .int .u8 0, .int .u8 0, .int .u8 0, .int .u8 0, .int .u8 0, .int .u8 0, .int .u8 0, .int .u8 0, .int .u8 0, .int .u8 0, .int .u64 0, .int .u64 0, .pointer none, .int .u16 0] 40)) := by
    exact ⟨World.rangeAt_alloc (World.rangeAt_alloc (range_new' rfl) _) _, World.rangeAt_alloc (range_new' (by simp)) _, there_new' (by simp) (Nat.le_refl _), by rw [World.cell?_alloc_lt _ _ _ (by simp), World.cell?_alloc_lt _ _ _ (by simp), World.cell?_alloc_lt _ _ _ h0]; exact hz, (((Below.refl _ _).alloc (Nat.le_refl _) _).alloc (by simp) _).alloc (by simp; omega) _, by simp; omega⟩
  generalize (((w.alloc (.cells (idA s) 27)).alloc (.cells #[.int .u8 x0, .int .u8 x1, .int .u8 x2, .int .u8 x3] 23)).alloc (.cells #[.int .u8 0, .int .u8 0, .int .u8 0, .int .u8 0, .int .u8 0, .int .u8 0, .int .u8 0, .int .u8 0, .int .u8 0, .int .u8 0, .int .u8 0, .int .u8 0, .int .u8 0, .int .u8 0, .int .u8 0, .int .u8 0, .int .u8 0, .int .u8 0, .int .u8 0, .int .u8 0, .int .u64 0, .int .u64 0, .pointer none, .int .u16 0] 40)) = W at hS ⊢
  generalize hn : w.heap.size = n at hS h0 ⊢
  refine wp_region_held_drew (S := SC n s x0 x1 x2 x3 z w) (by kernel_rfl) hS.drew (fun hH => ?_)
  refine held_take 0 (some 7) (.agg (idA s)) rfl rfl (by kernel_rfl) (by kernel_rfl) (by kernel_rfl) (fun _ _ _ h => h) rfl hH (fun w1 h1 => exec_load 27 (.tmp 3) rfl n 0 rfl (idA s).toList _ Tryd.underlying27 rfl (sz27 s) w1 h1.1) ?_
  refine held_take 1 (some 8) (.agg #[.int .u8 x0, .int .u8 x1, .int .u8 x2, .int .u8 x3]) rfl rfl (by kernel_rfl) (by kernel_rfl) (by kernel_rfl) (fun _ _ _ h => h) rfl hH (fun w1 h1 => exec_load 23 (.tmp 4) rfl (n + 1) 0 rfl [.int .u8 x0, .int .u8 x1, .int .u8 x2, .int .u8 x3] _ Tryd.underlying23 rfl Tryd.size23 w1 h1.2.1) ?_
  refine held_take 3 (some 10) (.int .u16 p) rfl rfl (by kernel_rfl) (by kernel_rfl) (by kernel_rfl) (fun _ _ _ h => h) rfl hH (fun w1 _ => exec_move (.tmp 2) rfl _ rfl w1) ?_
  simp only [Act.put, List.setIfInBounds_toArray, List.set_cons_zero, List.set_cons_succ]
  refine held_one 2 rfl (by kernel_rfl) rfl (fun K hK => ?_)
  go_simp
  refine (from4_any x0 x1 x2 x3 z _ hH.2.2.2.1).mono ?_
  rintro e w1 ⟨l, rfl, hb⟩
  have hH1 := hH.below hb
  refine hK.out _ _ hH1 ?_
  clear hK K hb hH hS
  refine held_one 4 rfl (by kernel_rfl) rfl (fun K hK => ?_)
  go_simp
  refine (portFrom_any l p z _).mono ?_
  rintro e w2 ⟨rfl, hb⟩
  have hH2 := hH1.below hb
  refine hK.out _ _ hH2 ?_
  clear hK K hb hH1
  refine held_take 5 (some 12) (.agg (conA s l z p)) rfl rfl (by kernel_rfl) (by kernel_rfl) (by kernel_rfl) (fun _ _ _ h => h) rfl hH2 (fun w1 _ => exec_build 40 #[(0, .tmp 7), (1, .tmp 11)] rfl _ _ (bld40 s l z p) (by simp [Act.eval]) w1) ?_
  simp only [Act.put, List.setIfInBounds_toArray, List.set_cons_zero, List.set_cons_succ]
  refine held_one 6 rfl (by kernel_rfl) rfl (fun K hK => ?_)
  simp only [List.getElem_toArray, List.getElem_cons_succ, List.getElem_cons_zero]
  have ht2 := hH2.2.2.1
  have key := fun o a h1 h2 h3 K Q h4 => store40 s l z p (n + 1 + 1) 0 o a (.tmp 6) (.tmp 12) h1 h2 h3 K Q ht2 h4
  refine key _ _ ?q1 ?q2 ?q3 _ _ ?q4
  case q1 => rfl
  case q2 => rfl
  case q3 => rfl
  have hb3 : Below n w (w2.setCells (n + 1 + 1) 0 (conA s l z p).toList) := below_setCells (by omega) _ _ _ hH2.2.2.2.2.1
  have hr3 : (w2.setCells (n + 1 + 1) 0 (conA s l z p).toList).rangeAt (n + 1 + 1) 0 (conA s l z p).toList := World.rangeAt_setCells_same _ _ _ _ (by rw [conA_len]; exact hH2.2.2.1)
  refine hK.out _ _ (hH2.set h0) ?_
  clear hK K
  refine wpAnyH_done (by kernel_rfl) ?_ _
  generalize w2.setCells (n + 1 + 1) 0 (conA s l z p).toList = w3 at hb3 hr3 ⊢
  clear hH2
  go_wp2
  exact bodyPost_ret (v := .agg (conA s l z p)) (results_cell1 Tryd.results6 (n + 1 + 1) 0 rfl (run_loadVar_mid w3 (n + 1 + 1) 0 40 (conA s l z p).toList _ hr3 Tryd.underlying40 rfl (sz40 s l z p))) rfl ⟨l, rfl, by rw [hn]; exact hb3⟩
end Go.Proofs.Qxb6609384aDoor
