import Derived.Test.Qxb6609384aDoorLz
import Derived.BigRegion
import Derived.Deep.OwnRows
namespace Go.Proofs.Qxb6609384aDoor
open Go.RowKit
set_option linter.unusedSimpArgs false

theorem idA_row {w : World} {b t : Nat} {f : Nat → Int} (h : w.rowIs b t 20 (fun j => .int .u8 (f j))) : w.rangeAt b 0 (idA f).toList := fun j v hv => by
  have hj : j < 20 := by
    have := (List.getElem?_eq_some_iff.1 hv).1
    simpa [idA] using this
  have e : (idA f)[j]? = some v := by simpa using hv
  rw [idA_get f j hj] at e
  rw [Nat.zero_add, h.cell hj]
  exact e

theorem cells_idA {w : World} {b t : Nat} {f : Nat → Int} (h : w.heap[b]? = some (.cells (idA f) t (0, 0))) (k : Nat) (hk : k < 20) : w.cell? ⟨b, k, none⟩ = some (.int .u8 (f k)) := by
  simp [World.cell?, h, idA_get f k hk]

theorem idA_one (s : Nat → Int) : ∀ v ∈ idA s, v.oneCell' = true := by
  intro v hv
  simp [idA] at hv
  rcases hv with rfl | rfl | rfl | rfl | rfl | rfl | rfl | rfl | rfl | rfl | rfl | rfl | rfl | rfl | rfl | rfl | rfl | rfl | rfl | rfl <;> rfl
theorem idA_size (s : Nat → Int) : (idA s).size = 20 := rfl
theorem idA_len (s : Nat → Int) : (idA s).toList.length = 20 := rfl
theorem wpList_store27 {ops : Array Oper} {rest : List Oper} {op : Oper} {a : Act} {w : World} {Q : Exit → Act → World → Prop} (s : Nat → Int) (b o : Nat) (x y : Operand) (ht : w.there b o 20)
    (hgd : op.guard = none) (ho : op.op = .store 27 x y) (hx : a.eval x = .pointer (some ⟨b, o, none⟩)) (hy : a.eval y = .agg (idA s)) (h : wpList Tryd.prog ops Q rest (a.put op.dst undef) (w.setCells b o (idA s).toList)) : wpList Tryd.prog ops Q (op :: rest) a w := by
  have ht2 : w.there b o (idA s).size := by rw [idA_size]; exact ht
  have hi2 : (Tryd.prog.info? 27).map (·.size) = some (idA s).size := by rw [idA_size]; exact Tryd.size27
  exact wpList_plain hgd fun _ hK => wp_store_is 27 x y ho b o (idA s) hx hy ht2 hi2 (idA_one s) (hK _ _ h)
theorem wpList_load27 {ops : Array Oper} {rest : List Oper} {op : Oper} {a : Act} {w : World} {Q : Exit → Act → World → Prop} (s : Nat → Int) (b o : Nat) (x : Operand) (hc : w.rangeAt b o (idA s).toList)
    (hgd : op.guard = none) (ho : op.op = .load 27 x) (hx : a.eval x = .pointer (some ⟨b, o, none⟩)) (h : wpList Tryd.prog ops Q rest (a.put op.dst (.agg (idA s))) w) : wpList Tryd.prog ops Q (op :: rest) a w :=
  wpList_load_mid hgd 27 x ho b o hx (idA s).toList _ hc Tryd.underlying27 rfl (sz27 s) h
theorem idA_congr {s t : Nat → Int} (h : ∀ i, i < 20 → s i = t i) : idA s = idA t := by
  simp [idA, h]

/-- The bytes that are there behind k rounds. -/
def xk (A B : Nat → Nat) (k : Nat) (j : Nat) : Int := if j < k then ((A j ^^^ B j : Nat) : Int) else 0

theorem world4 (w : World) (f g : Nat → Int) (Z : Array Value) (hZ : Z.size = 20) (hz : ∀ i, i < 20 → Z[i]? = some (.int .u8 0)) :
    let W := ((((w.alloc (.cells (idA f) 27)).alloc (.cells (idA g) 27)).alloc (.cells Z 27)).alloc (.cells Z 27))
    (∀ k, k < 20 → W.cell? ⟨w.heap.size, k, none⟩ = some (.int .u8 (f k))) ∧ (∀ k, k < 20 → W.cell? ⟨w.heap.size + 1, k, none⟩ = some (.int .u8 (g k))) ∧ W.there (w.heap.size + 1 + 1) 0 20 ∧
      W.rowIs (w.heap.size + 1 + 1 + 1) 27 20 (fun _ => .int .u8 0) ∧ Below w.heap.size w W ∧ w.heap.size + 1 + 1 + 1 < W.heap.size := by
  intro W
  refine ⟨fun k hk => ?_, fun k hk => ?_, World.there_alloc (there_new' (by simp) (by omega)) _, ⟨Z, ?_, hZ, hz⟩, ((((Below.refl _ _).alloc (Nat.le_refl _) _).alloc (by simp) _).alloc (by simp; omega) _).alloc (by simp; omega) _, by simp [W]⟩
  · rw [World.cell?_alloc_lt _ _ _ (by simp; omega), World.cell?_alloc_lt _ _ _ (by simp; omega), World.cell?_alloc_lt _ _ _ (by simp), World.cell?_alloc_at _ _ _ _ rfl]
    exact idA_get f k hk
  · rw [World.cell?_alloc_lt _ _ _ (by simp), World.cell?_alloc_lt _ _ _ (by simp), World.cell?_alloc_at _ _ _ _ (by simp)]
    exact idA_get g k hk
  · have h := heap_alloc_new (((w.alloc (.cells (idA f) 27)).alloc (.cells (idA g) 27)).alloc (.cells Z 27)) (.cells Z 27)
    have e : (((w.alloc (.cells (idA f) 27)).alloc (.cells (idA g) 27)).alloc (.cells Z 27)).heap.size = w.heap.size + 1 + 1 + 1 := by simp
    rw [e] at h
    exact h

set_option maxHeartbeats 800000 in
theorem dist_any (A B : Nat → Nat) (hA : ∀ i, A i < 256) (hB : ∀ i, B i < 256) (w : World) :
    Calls Tryd.prog 33 #[.agg (idA fun i => (A i : Int)), .agg (idA fun i => (B i : Int))] w fun e w' => e = .returned (.agg (idA fun i => ((A i ^^^ B i : Nat) : Int))) ∧ Below w.heap.size w w' := by
  obtain ⟨X, hX⟩ : ∃ X : Nat → Int, X = fun i => ((A i ^^^ B i : Nat) : Int) := ⟨_, rfl⟩
  rw [← hX]
  have HX : Hid (X = fun i => ((A i ^^^ B i : Nat) : Int)) := hX
  clear hX
  go_enter Tryd.func33, Tryd.ntmps33
  go_wp2
  have hS : ∃ W : World, W = ((((w.alloc (.cells (idA fun i => (A i : Int)) 27)).alloc (.cells (idA fun i => (B i : Int)) 27)).alloc (.cells #[.int .u8 0, .int .u8 0, .int .u8 0, .int .u8 0, .int .u8 0, .int .u8 0, .int .u8 0, .int .u8 0, .int .u8 0, .int .u8 0, .int .u8 0, .int .u8 0, .int .u8 0, .int .u8 0, .int .u8 0, .int .u8 0, .int .u8 0, .int .u8 0, .int .u8 0, .int .u8 0] 27)).alloc (.cells #[.int .u8 0, .int .u8 0, .int .u8 0, .int .u8 0, .int .u8 0, .int .u8 0, .int .u8 0, .int .u8 0, .int .u8 0, .int .u8 0, .int .u8 0, .int .u8 0, .int .u8 0, .int .u8 0, .int .u8 0, .int .u8 0, .int .u8 0, .int .u8 0, .int .u8 0, .int .u8 0] 27)) ∧ (∀ k, k < 20 → W.cell? ⟨w.heap.size, k, none⟩ = some (.int .u8 (A k : Int))) ∧ (∀ k, k < 20 → W.cell? ⟨w.heap.size + 1, k, none⟩ = some (.int .u8 (B k : Int))) ∧ W.there (w.heap.size + 1 + 1) 0 20 ∧ W.rowIs (w.heap.size + 1 + 1 + 1) 27 20 (fun j => .int .u8 (xk A B 0 j)) ∧ Below w.heap.size w W ∧ w.heap.size + 1 + 1 + 1 < W.heap.size := by
    obtain ⟨h1, h2, h3, h4, h5, h6⟩ := world4 w (fun i => (A i : Int)) (fun i => (B i : Int)) #[.int .u8 0, .int .u8 0, .int .u8 0, .int .u8 0, .int .u8 0, .int .u8 0, .int .u8 0, .int .u8 0, .int .u8 0, .int .u8 0, .int .u8 0, .int .u8 0, .int .u8 0, .int .u8 0, .int .u8 0, .int .u8 0, .int .u8 0, .int .u8 0, .int .u8 0, .int .u8 0] rfl (fun i hi => by
      match i, hi with
      | 0, _ => rfl | 1, _ => rfl | 2, _ => rfl | 3, _ => rfl | 4, _ => rfl | 5, _ => rfl | 6, _ => rfl | 7, _ => rfl | 8, _ => rfl | 9, _ => rfl
      | 10, _ => rfl | 11, _ => rfl | 12, _ => rfl | 13, _ => rfl | 14, _ => rfl | 15, _ => rfl | 16, _ => rfl | 17, _ => rfl | 18, _ => rfl | 19, _ => rfl
      | n + 20, h => exact absurd h (by omega))
    exact ⟨_, rfl, h1, h2, h3, h4, h5, h6⟩
  obtain ⟨W, hW, cA, cB, ht, hrow, hbW, hsz⟩ := hS
  rw [← hW]
  clear hW
  generalize hn : w.heap.size = n at cA cB ht hrow hbW hsz ⊢
  have HA : Hid (∀ k, k < 20 → W.cell? ⟨n, k, none⟩ = some (.int .u8 (A k : Int))) := cA
  have HB : Hid (∀ k, k < 20 → W.cell? ⟨n + 1, k, none⟩ = some (.int .u8 (B k : Int))) := cB
  have HT : Hid (W.there (n + 1 + 1) 0 20) := ht
  have HW : Hid (Below n w W) := hbW
  have H1 : Hid (∀ i, A i < 256) := hA
  have H2 : Hid (∀ i, B i < 256) := hB
  clear cA cB ht hbW hA hB
  go_loopw [7] (fun t wr => ∃ k : Nat, k ≤ 20 ∧ t = .int .i64 k ∧ wr.rowIs (n + 1 + 1 + 1) 27 20 (fun j => .int .u8 (xk A B k j)) ∧ Below (n + 1 + 1 + 1) W wr) (fun t _ => 20 - (intOf t).toNat)
  case atStart => exact ⟨0, Nat.zero_le _, rfl, hrow, Below.refl _ _⟩
  case round =>
    clear hrow
    obtain ⟨k, hk, rfl, hrow, hbel⟩ := hrel
    by_cases hlt : k < 20
    · have cA := (hbel.cell (p := ⟨n, k, none⟩) (show n < n + 1 + 1 + 1 by omega)).trans (HA.out k hlt)
      have cB := (hbel.cell (p := ⟨n + 1, k, none⟩) (show n + 1 < n + 1 + 1 + 1 by omega)).trans (HB.out k hlt)
      have cD := hrow.cell hlt
      have fD := hrow.frozen k
      have hx : bits BinOp.xor IntKind.u8 (A k : Int) (B k : Int) = ((A k ^^^ B k : Nat) : Int) := u8_xor_nat _ _ (H1.out k) (H2.out k)
      have R : (wr.setCell ⟨n + 1 + 1 + 1, k, none⟩ (.int .u8 ((A k ^^^ B k : Nat) : Int))).rowIs (n + 1 + 1 + 1) 27 20 (fun j => .int .u8 (xk A B (k + 1) j)) := (hrow.set k _).congr (fun j hj => by
        by_cases e : j = k
        · subst e; simp [xk]
        · simp only [if_neg e, xk]
          by_cases e2 : j < k
          · rw [if_pos e2, if_pos (by omega)]
          · rw [if_neg e2, if_neg (by omega)])
      have S : Below (n + 1 + 1 + 1) W (wr.setCell ⟨n + 1 + 1 + 1, k, none⟩ (.int .u8 ((A k ^^^ B k : Nat) : Int))) := hbel.setCell (Nat.le_refl _) _
      have HR : Hid _ := R
      have HSs : Hid _ := S
      clear R S hrow hbel
      have hlt' : (k : Int) < 20 := by omega
      go_wp2
      go_region
      all_goals
        go_wp2
        go_roundw
        case rel => exact ⟨k + 1, by omega, by go_num, World.rowIs.drew HR.out, HSs.out.drew⟩
        case measure => simp [intOf]; omega
    · obtain rfl : k = 20 := by omega
      have hR : wr.rangeAt (n + 1 + 1 + 1) 0 (idA (xk A B 20)).toList := idA_row hrow
      have hT : wr.there (n + 1 + 1) 0 20 := fun j hj => by
        obtain ⟨t1, t2⟩ := HT.out j hj
        exact ⟨by rw [hbel.cell (p := ⟨n + 1 + 1, 0 + j, none⟩) (by simp)]; exact t1, by rw [hbel.frozen (p := ⟨n + 1 + 1, 0 + j, none⟩) (by simp)]; exact t2⟩
      have e : idA (xk A B 20) = idA X := idA_congr (fun i hi => by rw [HX.out]; simp [xk, hi])
      rw [e] at hR
      have hb2 : Below n w wr := HW.out.trans (hbel.mono (by omega))
      clear e hrow hbel
      have tok : True := trivial
      have tok2 : True := trivial
      go_wp2_with (first | (have _t := tok; refine wpList_load27 X (n + 1 + 1 + 1) 0 (.tmp 5) hR (by rfl) (by rfl) (by rfl) ?_; clear tok) | (have _t := tok2; refine wpList_store27 X (n + 1 + 1) 0 (.tmp 4) (.tmp 20) hT (by rfl) (by rfl) (by rfl) (by rfl) ?_; clear tok2))
      exact bodyPost_ret (v := .agg (idA X)) (results_cell1 Tryd.results33 (n + 1 + 1) 0 rfl (run_loadVar_mid _ (n + 1 + 1) 0 27 (idA X).toList _ (World.rangeAt_setCells_same _ _ _ _ hT) Tryd.underlying27 rfl (sz27 X))) rfl ⟨rfl, by rw [hn]; exact below_setCells (by omega) _ _ _ hb2⟩
end Go.Proofs.Qxb6609384aDoor
