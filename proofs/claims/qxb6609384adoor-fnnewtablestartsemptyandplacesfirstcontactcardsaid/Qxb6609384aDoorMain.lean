import Derived.Test.Qxb6609384aDoorZAdd
import Derived.Test.Qxb6609384aDoorPlain
import Derived.Test.Qxb6609384aDoorEq
import Derived.Laws.Pointers
import Derived.Deep.Cut
namespace Go.Proofs.Qxb6609384aDoor
open Go.RowKit
set_option linter.unusedSimpArgs false

section
variable {P : Program} {md : Region.Mode} {ops : Array Oper} {Q : Exit → Act → World → Prop} {S : World → Prop}
/-- Two operations may come up. -/
theorem held_two (i j : Nat) {oi oj : Oper} {fuel : Nat} {listed : Array Bool} {a : Act} {w : World} (hi : ops[i]? = some oi) (hj : ops[j]? = some oj) (hr : Region.ready md ops listed = [i, j]) (hg : Region.wanted oi (yielded ops a.tmps) = true) (hgj : Region.wanted oj (yielded ops a.tmps) = true)
    (h : ∀ K' : Act → World → Prop, Hid (∀ a w, S w → wpAnyH P md ops Q S fuel (listed.setIfInBounds i true) a w → K' a w) → Oper.wp P oi a w K' Q)
    (h2 : ∀ K' : Act → World → Prop, Hid (∀ a w, S w → wpAnyH P md ops Q S fuel (listed.setIfInBounds j true) a w → K' a w) → Oper.wp P oj a w K' Q) : wpAnyH P md ops Q S (fuel + 1) listed a w := by
  refine wpAnyH_ready hr (by simp) (AllReadyH.cons hi (fun K' hK => ?_) (AllReadyH.cons hj (fun K' hK => ?_) AllReadyH.nil))
  · rw [if_pos hg]
    exact h K' (fun a w hS hW => hK.out a w hS (fun _ => hW))
  · rw [if_pos hgj]
    exact h2 K' (fun a w hS hW => hK.out a w hS (fun _ => hW))

end

theorem Tryd.size22 : (Tryd.prog.info? 22).map (·.size) = some 20 := by kernel_rfl
theorem sz22 (s : Nat → Int) : (Tryd.prog.info? 22).map (·.size) = some (idA s).toList.length := by rw [idA_len]; exact Tryd.size22
theorem wpList_load22 {ops : Array Oper} {rest : List Oper} {op : Oper} {a : Act} {w : World} {Q : Exit → Act → World → Prop} (s : Nat → Int) (b o : Nat) (x : Operand) (hc : w.rangeAt b o (idA s).toList)
    (hgd : op.guard = none) (ho : op.op = .load 22 x) (hx : a.eval x = .pointer (some ⟨b, o, none⟩)) (h : wpList Tryd.prog ops Q rest (a.put op.dst (.agg (idA s))) w) : wpList Tryd.prog ops Q (op :: rest) a w :=
  wpList_load_mid hgd 22 x ho b o hx (idA s).toList _ hc Tryd.underlying22 rfl (sz22 s) h

theorem tabA_get (s : Nat → Int) (k : Int) (b : Nat) (hb : b < 161) : (tabA s k)[22 + b]? = some (.slice none 0 0) := by
  unfold tabA
  have e : (idA s ++ #[Value.int .i64 k, .int .i64 900000000000]).size = 22 := rfl
  rw [Array.getElem?_append_right (by omega), e]
  have e2 : 22 + b - 22 = b := by omega
  rw [e2, Array.getElem?_replicate, if_pos hb]
theorem tab_new (w : World) (A : Nat → Nat) (k : Int) : TabAt (w.alloc (.cells (tabA (fun i => (A i : Int)) k) 56)) w.heap.size A k := by
  refine ⟨?_, ?_, fun b hb => ?_, ?_, fun i => by simp⟩
  · have h := range_new w (tabA (fun i => (A i : Int)) k) 56
    have e : (tabA (fun i => (A i : Int)) k).toList = (idA fun i => (A i : Int)).toList ++ ([.int .i64 k, .int .i64 900000000000] ++ List.replicate 161 (.slice none 0 0)) := by
      unfold tabA; simp
    rw [e] at h
    exact range_left h
  · rw [World.cell?_alloc_new]
    unfold tabA
    rw [Array.getElem?_append_left (by simp [idA]), Array.getElem?_append_right (by simp [idA])]
    rfl
  · rw [World.cell?_alloc_new, tabA_get _ _ _ (by omega)]
  · rw [World.cell?_alloc_new]
    exact tabA_get _ _ 160 (by omega)

theorem walk_out (S I ip : Array Value) (k p t : Int) (w : World) (h : k < 1 ∨ 2048 < k) :
    Calls Tryd.prog 3 #[.agg S, .int .i64 k, .agg I, .agg ip, .int .u16 p, .int .i64 t] w fun e w' => e = .returned (.bool true) ∧ Below w.heap.size w w' := by
  rcases h with h | h
  · go_enter Tryd.func3, Tryd.ntmps3
    go_wp2
    go_ret
    exact ⟨rfl, (((Below.refl _ _).alloc (Nat.le_refl _) _).alloc (by simp) _).alloc (by simp; omega) _⟩
  · have h' : ¬ k < 1 := by omega
    go_enter Tryd.func3, Tryd.ntmps3
    go_wp2
    go_ret
    exact ⟨rfl, (((Below.refl _ _).alloc (Nat.le_refl _) _).alloc (by simp) _).alloc (by simp; omega) _⟩

/-- The law's own boxes: self, id, ip. -/
def Bx (n : Nat) (A B : Nat → Nat) (x0 x1 x2 x3 : Int) (z : Option Addr) (w0 w : World) : Prop :=
  w.rangeAt n 0 (idA fun i => (A i : Int)).toList ∧ w.rangeAt (n + 1) 0 (idA fun i => (B i : Int)).toList ∧ w.rangeAt (n + 1 + 1) 0 [.int .u8 x0, .int .u8 x1, .int .u8 x2, .int .u8 x3] ∧ w.cell? ⟨0, 0, none⟩ = some (.pointer z) ∧ Below n w0 w ∧ n + 1 + 1 < w.heap.size ∧ w0.heap.size = n
theorem Bx.below {n : Nat} {A B : Nat → Nat} {x0 x1 x2 x3 : Int} {z : Option Addr} {w0 w w' : World} (h : Bx n A B x0 x1 x2 x3 z w0 w) (hb : Below w.heap.size w w') : Bx n A B x0 x1 x2 x3 z w0 w' :=
  ⟨range_below h.1 hb, range_below h.2.1 hb, range_below h.2.2.1 hb, cell_below h.2.2.2.1 hb, h.2.2.2.2.1.trans (hb.mono (by have := h.2.2.2.2.2.1; omega)), Nat.lt_of_lt_of_le h.2.2.2.2.2.1 hb.size, h.2.2.2.2.2.2⟩
theorem Bx_start (w : World) (A B : Nat → Nat) (x0 x1 x2 x3 : Int) (z : Option Addr) (hz : w.cell? ⟨0, 0, none⟩ = some (.pointer z)) :
    Bx w.heap.size A B x0 x1 x2 x3 z w (((w.alloc (.cells (idA fun i => (A i : Int)) 22)).alloc (.cells (idA fun i => (B i : Int)) 22)).alloc (.cells #[.int .u8 x0, .int .u8 x1, .int .u8 x2, .int .u8 x3] 23)) :=
  have hb : Below w.heap.size w (((w.alloc (.cells (idA fun i => (A i : Int)) 22)).alloc (.cells (idA fun i => (B i : Int)) 22)).alloc (.cells #[.int .u8 x0, .int .u8 x1, .int .u8 x2, .int .u8 x3] 23)) := (((Below.refl _ _).alloc (Nat.le_refl _) _).alloc (by simp) _).alloc (by simp; omega) _
  ⟨World.rangeAt_alloc (World.rangeAt_alloc (range_new' rfl) _) _, World.rangeAt_alloc (range_new' (by simp)) _, range_new' (by simp), cell_below hz hb, hb, by simp, rfl⟩

theorem stageC (w W1 w2 : World) (n tb : Nat) (A B : Nat → Nat) (x0 x1 x2 x3 : Int) (z : Option Addr) (k l p : Int) (C : Array Value) (hC : C.size = 24) (hS : Bx n A B x0 x1 x2 x3 z w W1) (hT : TabAt W1 tb A k) (hb : Below W1.heap.size W1 w2) :
    ∃ W3, W3 = (w2.alloc (.cells C 40)).setCells w2.heap.size 0 (conA (fun i => (B i : Int)) l z p).toList ∧ Bx n A B x0 x1 x2 x3 z w W3 ∧ TabAt W3 tb A k ∧ W3.rangeAt w2.heap.size 0 (conA (fun i => (B i : Int)) l z p).toList ∧ w2.heap.size < W3.heap.size := by
  have hb3 : Below w2.heap.size w2 ((w2.alloc (.cells C 40)).setCells w2.heap.size 0 (conA (fun i => (B i : Int)) l z p).toList) := below_setCells (Nat.le_refl _) _ _ _ ((Below.refl _ _).alloc (Nat.le_refl _) _)
  have ht := there_new w2 C 40 24 (by omega)
  refine ⟨_, rfl, (hS.below hb).below hb3, (hT.below hb).below hb3, World.rangeAt_setCells_same _ _ _ _ ht, ?_⟩
  have h := (below_setCells (Nat.zero_le _) (conA (fun i => (B i : Int)) l z p).toList 0 _ (Below.refl 0 (w2.alloc (.cells C 40))) (b := w2.heap.size)).size
  simp at h; omega

/-- What stands behind the add: the variable 'stale' holds the zero contact, 'ok' says whether the contact was taken, and just its bucket holds it. -/
def After (A B : Nat → Nat) (l : Int) (z : Option Addr) (p : Int) (tb : Nat) (W w' : World) (v16 v17 : Value) : Prop := ∃ ns q, v16 = .pointer (some ⟨ns, 0, none⟩) ∧ v17 = .bool (decide (q < 160)) ∧ q ≤ 160 ∧ Lz (fun i => A i ^^^ B i) q ∧ w'.rangeAt ns 0 zcon.toList ∧ W.grownBy w' (some tb) ∧
  (∀ b, b < 160 → b ≠ q → w'.cell? ⟨tb, 22 + b, none⟩ = some (.slice none 0 0)) ∧ (q < 160 → ∃ g c, w'.cell? ⟨tb, 22 + q, none⟩ = some (.slice (some ⟨g, 0, none⟩) 1 c) ∧ w'.rangeAt g 0 (conA (fun i => (B i : Int)) l z p).toList)

/-- The same, the variable 'stale' not yet written: it lies at block ns. -/
def AD (A B : Nat → Nat) (l : Int) (z : Option Addr) (p : Int) (tb ns : Nat) (W w' : World) (ok : Bool) : Prop := ∃ q, ok = decide (q < 160) ∧ q ≤ 160 ∧ Lz (fun i => A i ^^^ B i) q ∧ W.grownBy w' (some tb) ∧
  (∀ b, b < 160 → b ≠ q → w'.cell? ⟨tb, 22 + b, none⟩ = some (.slice none 0 0)) ∧ (q < 160 → ∃ g c, w'.cell? ⟨tb, 22 + q, none⟩ = some (.slice (some ⟨g, 0, none⟩) 1 c) ∧ w'.rangeAt g 0 (conA (fun i => (B i : Int)) l z p).toList ∧ g ≠ ns)
theorem AD_of {A B : Nat → Nat} {k l : Int} {z : Option Addr} {p : Int} {tb ns : Nat} {W w1 w2 : World} {ok : Bool} (ht : TabAt w1 tb A k) (hb : Below W.heap.size W w1) (ha : Added A B l z p tb w1 w2 ok) (hns : ns < w1.heap.size ∨ w2.heap.size ≤ ns) : AD A B l z p tb ns W w2 ok := by
  obtain ⟨q, hq, hz, ⟨rfl, rfl, hB⟩ | ⟨hlt, rfl, hg, hc, g, c, hcq, hr, hg1, hg2⟩⟩ := ha
  · have hb2 := hb.trans (hB.mono hb.size)
    exact ⟨160, rfl, hq, hz, ⟨hb2.os, hb2.tape, hb2.output, hb2.size, fun i hi _ => hb2.block i hi⟩, fun b hb' _ => (ht.below hB).2.2.1 b hb', fun h => absurd h (by omega)⟩
  · exact ⟨q, by simp [hlt], hq, hz, ⟨hg.os.trans hb.os, hg.tape.trans hb.tape, hg.output.trans hb.output, Nat.le_trans hb.size hg.size, fun i hi hne => (hg.block i (Nat.lt_of_lt_of_le hi hb.size) hne).trans (hb.block i hi)⟩, hc, fun _ => ⟨g, c, hcq, hr, by omega⟩⟩
theorem AD.alloc {A B : Nat → Nat} {l : Int} {z : Option Addr} {p : Int} {tb ns : Nat} {W w' : World} {ok : Bool} (h : AD A B l z p tb ns W w' ok) (o : Obj) : AD A B l z p tb ns W (w'.alloc o) ok := by
  obtain ⟨q, h1, h2, h3, h4, h5, h6⟩ := h
  refine ⟨q, h1, h2, h3, grownBy_alloc h4 o, fun b hb hne => ?_, fun hq => ?_⟩
  · have := h5 b hb hne
    rw [World.cell?_alloc_lt _ _ _ (World.block_lt_of_cell? _ _ this)]; exact this
  · obtain ⟨g, c, e1, e2, e3⟩ := h6 hq
    exact ⟨g, c, by rw [World.cell?_alloc_lt _ _ _ (World.block_lt_of_cell? _ _ e1)]; exact e1, World.rangeAt_alloc e2 _, e3⟩
theorem AD.after {A B : Nat → Nat} {l : Int} {z : Option Addr} {p : Int} {tb ns : Nat} {W w' : World} {ok : Bool} (h : AD A B l z p tb ns W w' ok) (hns : W.heap.size ≤ ns) (htb : tb < W.heap.size) (ht : w'.there ns 0 24) :
    After A B l z p tb W (w'.setCells ns 0 zcon.toList) (.pointer (some ⟨ns, 0, none⟩)) (.bool ok) := by
  obtain ⟨q, rfl, h2, h3, h4, h5, h6⟩ := h
  refine ⟨ns, q, rfl, rfl, h2, h3, World.rangeAt_setCells_same _ _ _ _ ht, grownBy_setCells hns _ _ _ h4, fun b hb hne => cell_apart (h5 b hb hne) (by simp; omega), fun hq => ?_⟩
  obtain ⟨g, c, e1, e2, e3⟩ := h6 hq
  exact ⟨g, c, cell_apart e1 (by simp; omega), World.rangeAt_setCells_apart e2 _ _ _ (.inl e3)⟩
theorem range_added {A B : Nat → Nat} {l : Int} {z : Option Addr} {p : Int} {tb b o : Nat} {cs : List Value} {w1 w2 : World} {ok : Bool} (ha : Added A B l z p tb w1 w2 ok) (hb : b < w1.heap.size) (hne : b ≠ tb) : (w1.rangeAt b o cs → w2.rangeAt b o cs) ∧ ∀ n, w1.there b o n → w2.there b o n := by
  have e : w2.heap[b]? = w1.heap[b]? := by
    obtain ⟨q, hq, hz, ⟨rfl, rfl, hB⟩ | ⟨hlt, rfl, hg, _⟩⟩ := ha
    · exact hB.block b hb
    · exact hg.block b hb (by simpa using hne)
  exact ⟨fun h j v hv => by rw [World.cell?_of_block (w := w1) (a := ⟨b, o + j, none⟩) e]; exact h j v hv, fun n h j hj => by rw [World.cell?_of_block (w := w1) (a := ⟨b, o + j, none⟩) e, World.frozen?_of_block (w := w1) (a := ⟨b, o + j, none⟩) e]; exact h j hj⟩

theorem wpList_exec {P : Program} {ops : Array Oper} {rest : List Oper} {op : Oper} {a : Act} {w w' : World} {Q : Exit → Act → World → Prop} {v : Value} (hgd : op.guard = none) (hrun : (execOp a.eval op).run P w = .ok (.value v) w') (h : wpList P ops Q rest (a.put op.dst v) w') : wpList P ops Q (op :: rest) a w := by
  refine wpList_plain hgd fun K hK => ?_
  unfold Oper.wp
  rw [hrun]
  exact hK _ _ h
theorem range_zero (w : World) : (w.alloc (.cells #[.int .u8 0, .int .u8 0, .int .u8 0, .int .u8 0, .int .u8 0, .int .u8 0, .int .u8 0, .int .u8 0, .int .u8 0, .int .u8 0, .int .u8 0, .int .u8 0, .int .u8 0, .int .u8 0, .int .u8 0, .int .u8 0, .int .u8 0, .int .u8 0, .int .u8 0, .int .u8 0, .int .u64 0, .int .u64 0, .pointer none, .int .u16 0] 40)).rangeAt w.heap.size 0 (conA (fun _ => 0) 0 none 0).toList := range_new w (conA (fun _ => 0) 0 none 0) 40

/-- What the law still needs of memory behind the add. -/
def MS (n nc tb q : Nat) (A B : Nat → Nat) (l : Int) (z : Option Addr) (p : Int) (w0 w : World) : Prop :=
  Below n w0 w ∧ w.rangeAt n 0 (idA fun i => (A i : Int)).toList ∧ w.rangeAt (n + 1) 0 (idA fun i => (B i : Int)).toList ∧ w.rangeAt nc 0 (conA (fun i => (B i : Int)) l z p).toList ∧ n ≤ w.heap.size ∧
  (∀ b, b < 160 → b ≠ q → w.cell? ⟨tb, 22 + b, none⟩ = some (.slice none 0 0)) ∧ (q < 160 → ∃ g c, w.cell? ⟨tb, 22 + q, none⟩ = some (.slice (some ⟨g, 0, none⟩) 1 c) ∧ w.rangeAt g 0 (conA (fun i => (B i : Int)) l z p).toList)
theorem MS.below {n nc tb q : Nat} {A B : Nat → Nat} {l : Int} {z : Option Addr} {p : Int} {w0 w w' : World} (h : MS n nc tb q A B l z p w0 w) (hb : Below w.heap.size w w') : MS n nc tb q A B l z p w0 w' := by
  obtain ⟨h1, h2, h3, h4, h5, h6, h7⟩ := h
  exact ⟨h1.trans (hb.mono h5), range_below h2 hb, range_below h3 hb, range_below h4 hb, Nat.le_trans h5 hb.size, fun b hb' hne => cell_below (h6 b hb' hne) hb, fun hq => by obtain ⟨g, c, e1, e2⟩ := h7 hq; exact ⟨g, c, cell_below e1 hb, range_below e2 hb⟩⟩
theorem MS_of {n nc tb : Nat} {A B : Nat → Nat} {x0 x1 x2 x3 : Int} {l : Int} {z : Option Addr} {p : Int} {w W wc : World} {u16 u17 : Value} (hS : Bx n A B x0 x1 x2 x3 z w W) (hr : W.rangeAt nc 0 (conA (fun i => (B i : Int)) l z p).toList) (ha : After A B l z p tb W wc u16 u17) (h1 : n + 1 + 1 < tb) (h2 : tb < nc) (_h3 : n + 1 + 1 < nc) (h4 : nc < W.heap.size) :
    ∃ ns q, u16 = .pointer (some ⟨ns, 0, none⟩) ∧ u17 = .bool (decide (q < 160)) ∧ q ≤ 160 ∧ Lz (fun i => A i ^^^ B i) q ∧ wc.rangeAt ns 0 zcon.toList ∧ MS n nc tb q A B l z p w wc := by
  obtain ⟨ns, q, e1, e2, hq, hL, hrs, hg, hnil, hyes⟩ := ha
  have ke : ∀ {b o : Nat} {cs : List Value}, b < W.heap.size → b ≠ tb → W.rangeAt b o cs → wc.rangeAt b o cs := fun {b o cs} hb hne h j v hv => by
    rw [World.cell?_of_block (w := W) (a := ⟨b, o + j, none⟩) (hg.block b hb (by simpa using hne))]; exact h j v hv
  have hsz := hS.2.2.2.2.2.1
  have hbl := hS.2.2.2.2.1
  exact ⟨ns, q, e1, e2, hq, hL, hrs, ⟨hg.os.trans hbl.os, hg.tape.trans hbl.tape, hg.output.trans hbl.output, Nat.le_trans hbl.size hg.size, fun i hi => (hg.block i (by omega) (by simp; omega)).trans (hbl.block i hi)⟩, ke (by omega) (by omega) hS.1, ke (by omega) (by omega) hS.2.1, ke h4 (by omega) hr, by have := hg.size; omega, hnil, hyes⟩

set_option maxRecDepth 100000 in
set_option maxHeartbeats 3200000 in
theorem walk_in (A B : Nat → Nat) (hA : ∀ i, A i < 256) (hB : ∀ i, B i < 256) (x0 x1 x2 x3 k p t : Int) (z : Option Addr) (w : World) (hz : w.cell? ⟨0, 0, none⟩ = some (.pointer z)) (hk1 : 1 ≤ k) (hk2 : k ≤ 2048) :
    Calls Tryd.prog 3 #[.agg (idA fun i => (A i : Int)), .int .i64 k, .agg (idA fun i => (B i : Int)), .agg #[.int .u8 x0, .int .u8 x1, .int .u8 x2, .int .u8 x3], .int .u16 p, .int .i64 t] w fun e w' => e = .returned (.bool true) ∧ Below w.heap.size w w' := by
  have H1 : Hid (∀ i, A i < 256) := hA
  have H2 : Hid (∀ i, B i < 256) := hB
  have HZ : Hid (w.cell? ⟨0, 0, none⟩ = some (.pointer z)) := hz
  clear hA hB hz
  have tok : True := trivial
  go_enter Tryd.func3, Tryd.ntmps3
  go_wp2_with (have _t := tok; refine wpList_load22 (fun i => (A i : Int)) w.heap.size 0 (.tmp 6) (World.rangeAt_alloc (World.rangeAt_alloc (range_new' rfl) _) _) (by rfl) (by rfl) (by rfl) ?_; clear tok)
  have hS := Bx_start w A B x0 x1 x2 x3 z HZ.out
  generalize (((w.alloc (.cells (idA fun i => (A i : Int)) 22)).alloc (.cells (idA fun i => (B i : Int)) 22)).alloc (.cells #[.int .u8 x0, .int .u8 x1, .int .u8 x2, .int .u8 x3] 23)) = W0 at hS ⊢
  generalize hn : w.heap.size = n at hS ⊢
  have HN : Hid (w.heap.size = n) := hn
  clear hn HZ
  refine (zzNewTable_any (fun i => (A i : Int)) k W0).mono ?_
  rintro e w' ⟨w1, tb, rfl, htb, rfl, hb⟩
  have hS1 := (hS.below hb).below ((Below.refl _ _).alloc (Nat.le_refl _) (.cells (tabA (fun i => (A i : Int)) k) 56))
  have hT1 : TabAt (w1.alloc (.cells (tabA (fun i => (A i : Int)) k) 56)) tb A k := by rw [htb]; exact tab_new w1 A k
  have htn : n + 1 + 1 < tb := by rw [htb]; exact (hS.below hb).2.2.2.2.2.1
  generalize w1.alloc (.cells (tabA (fun i => (A i : Int)) k) 56) = W1 at hS1 hT1 ⊢
  have HS : Hid (Bx n A B x0 x1 x2 x3 z w W1) := hS1
  have HT : Hid (TabAt W1 tb A k) := hT1
  clear hS hb htb hS1 hT1
  go_wp2
  go_loop [14] (fun v => ∃ b : Nat, b ≤ 160 ∧ v = .int .i64 b) (fun v => 160 - (intOf v).toNat)
  case atStart => exact ⟨0, Nat.zero_le _, rfl⟩
  case round =>
    obtain ⟨b, hb, rfl⟩ := hrel
    by_cases hlt : b < 160
    · have hlt' : (b : Int) < 160 := by omega
      go_wp2_with (go_at_call 5; refine (bucketLen_any tb b none 0 0 hlt _ (HT.out.2.2.1 b hlt)).mono ?_; rintro e w' ⟨rfl, hw⟩; have hw2 := hw.symm; subst hw2)
      go_round
      case rel => exact ⟨b + 1, by omega, by go_num⟩
      case measure => simp [intOf]; omega
    · obtain rfl : b = 160 := by omega
      have q0 : W1.cell? ⟨n + 1 + 1, 0, none⟩ = some (.int .u8 x0) := HS.out.2.2.1 0 _ rfl
      have q1 : W1.cell? ⟨n + 1 + 1, 1, none⟩ = some (.int .u8 x1) := HS.out.2.2.1 1 _ rfl
      have q2 : W1.cell? ⟨n + 1 + 1, 2, none⟩ = some (.int .u8 x2) := HS.out.2.2.1 2 _ rfl
      have q3 : W1.cell? ⟨n + 1 + 1, 3, none⟩ = some (.int .u8 x3) := HS.out.2.2.1 3 _ rfl
      have tok : True := trivial
      go_wp2_with (have _t := tok; refine wpList_load22 (fun i => (B i : Int)) (n + 1) 0 (.tmp 8) HS.out.2.1 (by rfl) (by rfl) (by rfl) ?_; clear tok)
      clear q0 q1 q2 q3
      refine (contact_any (fun i => (B i : Int)) x0 x1 x2 x3 p z W1 HS.out.2.2.2.1).mono ?_
      rintro e w2 ⟨l, rfl, hb2⟩
      have hlt2 : n + 1 + 1 < w2.heap.size := (HS.out.below hb2).2.2.2.2.2.1
      have HB2 : Hid (Below W1.heap.size W1 w2) := hb2
      clear hb2
      have tok : True := trivial
      go_wp2_with (have _t := tok; refine wpList_store40 (fun i => (B i : Int)) l z p w2.heap.size 0 (.tmp 15) (.tmp 44) (there_new _ _ _ _ (Nat.le_refl _)) (by rfl) (by rfl) (by rfl) (by rfl) ?_; clear tok)
      simp only [Act.put]
      obtain ⟨W3, hW3, hS3, hT3, hr3, hc3⟩ := stageC w W1 w2 n tb A B x0 x1 x2 x3 z k l p #[.int .u8 0, .int .u8 0, .int .u8 0, .int .u8 0, .int .u8 0, .int .u8 0, .int .u8 0, .int .u8 0, .int .u8 0, .int .u8 0, .int .u8 0, .int .u8 0, .int .u8 0, .int .u8 0, .int .u8 0, .int .u8 0, .int .u8 0, .int .u8 0, .int .u8 0, .int .u8 0, .int .u64 0, .int .u64 0, .pointer none, .int .u16 0] rfl HS.out HT.out HB2.out
      rw [← hW3]
      have hnc : tb < w2.heap.size := Nat.lt_of_lt_of_le HT.out.lt HB2.out.size
      have hnn : n + 1 + 1 < w2.heap.size := hlt2
      clear hlt2
      generalize w2.heap.size = nc at *
      have HS3 : Hid (Bx n A B x0 x1 x2 x3 z w W3) := hS3
      have HT3 : Hid (TabAt W3 tb A k) := hT3
      have HR3 : Hid (W3.rangeAt nc 0 (conA (fun i => (B i : Int)) l z p).toList) := hr3
      clear hW3 hS3 hT3 hr3 HS HT HB2
      go_cut [16, 17] from 22 (fun v16 v17 wr => After A B l z p tb W3 wr v16 v17)
      case first =>
        refine wp_region_held_drew (S := fun w' => w'.rangeAt nc 0 (conA (fun i => (B i : Int)) l z p).toList) (by kernel_rfl) HR3.out (fun hH => ?_)
        refine held_take 0 (some 46) (.pointer (some ⟨tb, 0, none⟩)) rfl rfl (by kernel_rfl) (by kernel_rfl) (by kernel_rfl) (fun _ _ _ h => h) rfl hH (fun w9 _ => by kernel_rfl) ?_
        simp only [Act.put, List.setIfInBounds_toArray, List.set_cons_zero, List.set_cons_succ]
        refine held_take 1 (some 47) (.agg (conA (fun i => (B i : Int)) l z p)) rfl rfl (by kernel_rfl) (by kernel_rfl) (by kernel_rfl) (fun _ _ _ h => h) rfl hH (fun w9 h9 => exec_load 40 (.tmp 15) rfl nc 0 rfl (conA (fun i => (B i : Int)) l z p).toList _ Tryd.underlying40 rfl (sz40 _ l z p) w9 h9) ?_
        simp only [Act.put, List.setIfInBounds_toArray, List.set_cons_zero, List.set_cons_succ]
        refine held_take 2 (some 48) (.int .i64 t) rfl rfl (by kernel_rfl) (by kernel_rfl) (by kernel_rfl) (fun _ _ _ h => h) rfl hH (fun w9 _ => by kernel_rfl) ?_
        simp only [Act.put, List.setIfInBounds_toArray, List.set_cons_zero, List.set_cons_succ]
        refine held_two 3 8 rfl rfl (by kernel_rfl) rfl rfl (fun K hK => ?_) (fun K hK => ?_)
        · go_simp
          refine (time_any t _).mono ?_
          rintro e wa ⟨x, y, rfl, hba⟩
          have hBa : Below W3.heap.size W3 wa := ((Below.refl _ _).drew).trans hba
          have hSa : wa.rangeAt nc 0 (conA (fun i => (B i : Int)) l z p).toList := range_below hH hba
          refine hK.out _ _ hSa ?_
          clear hK K hba hH
          refine held_two 4 8 rfl rfl (by kernel_rfl) rfl rfl (fun K hK => ?_) (fun K hK => ?_)
          · go_simp
            refine (zadd_any A B H1.out H2.out k l p x y z tb wa (HT3.out.below hBa) hk1).mono ?_
            rintro e wb ⟨ok, rfl, hAd⟩
            have hSb := (range_added (o := 0) hAd (Nat.lt_of_lt_of_le hc3 hBa.size) (by omega)).1 hSa
            refine hK.out _ _ hSb ?_
            clear hK K
            refine held_take 5 (some 45) (.tuple #[.agg zcon, .bool ok]) rfl rfl (by kernel_rfl) (by kernel_rfl) (by kernel_rfl) (fun _ _ _ h => h) rfl hSb (fun w9 _ => by kernel_rfl) ?_
            simp only [Act.put, List.setIfInBounds_toArray, List.set_cons_zero, List.set_cons_succ]
            refine held_take 6 (some 51) (.agg zcon) rfl rfl (by kernel_rfl) (by kernel_rfl) (by kernel_rfl) (fun _ _ _ h => h) rfl hSb (fun w9 _ => by kernel_rfl) ?_
            simp only [Act.put, List.setIfInBounds_toArray, List.set_cons_zero, List.set_cons_succ]
            refine held_take 7 (some 52) (.bool ok) rfl rfl (by kernel_rfl) (by kernel_rfl) (by kernel_rfl) (fun _ _ _ h => h) rfl hSb (fun w9 _ => by kernel_rfl) ?_
            simp only [Act.put, List.setIfInBounds_toArray, List.set_cons_zero, List.set_cons_succ]
            have hAD := AD_of (ns := wb.heap.size) (HT3.out.below hBa) hBa hAd (.inr (Nat.le_refl _))
            have hwb : W3.heap.size ≤ wb.heap.size := by obtain ⟨_, _, _, _, hgb, _⟩ := hAD; exact hgb.size
            refine held_one 8 rfl (by kernel_rfl) rfl (fun K hK => ?_)
            go_simp
            have hSc : (wb.alloc (.cells #[.int .u8 0, .int .u8 0, .int .u8 0, .int .u8 0, .int .u8 0, .int .u8 0, .int .u8 0, .int .u8 0, .int .u8 0, .int .u8 0, .int .u8 0, .int .u8 0, .int .u8 0, .int .u8 0, .int .u8 0, .int .u8 0, .int .u8 0, .int .u8 0, .int .u8 0, .int .u8 0, .int .u64 0, .int .u64 0, .pointer none, .int .u16 0] 40)).rangeAt nc 0 (conA (fun i => (B i : Int)) l z p).toList := World.rangeAt_alloc hSb _
            have hth : (wb.alloc (.cells #[.int .u8 0, .int .u8 0, .int .u8 0, .int .u8 0, .int .u8 0, .int .u8 0, .int .u8 0, .int .u8 0, .int .u8 0, .int .u8 0, .int .u8 0, .int .u8 0, .int .u8 0, .int .u8 0, .int .u8 0, .int .u8 0, .int .u8 0, .int .u8 0, .int .u8 0, .int .u8 0, .int .u64 0, .int .u64 0, .pointer none, .int .u16 0] 40)).there wb.heap.size 0 24 := there_new _ _ _ _ (Nat.le_refl _)
            have hADc := hAD.alloc (.cells #[.int .u8 0, .int .u8 0, .int .u8 0, .int .u8 0, .int .u8 0, .int .u8 0, .int .u8 0, .int .u8 0, .int .u8 0, .int .u8 0, .int .u8 0, .int .u8 0, .int .u8 0, .int .u8 0, .int .u8 0, .int .u8 0, .int .u8 0, .int .u8 0, .int .u8 0, .int .u8 0, .int .u64 0, .int .u64 0, .pointer none, .int .u16 0] 40)
            refine hK.out _ _ hSc ?_
            clear hK K
            generalize wb.alloc (.cells #[.int .u8 0, .int .u8 0, .int .u8 0, .int .u8 0, .int .u8 0, .int .u8 0, .int .u8 0, .int .u8 0, .int .u8 0, .int .u8 0, .int .u8 0, .int .u8 0, .int .u8 0, .int .u8 0, .int .u8 0, .int .u8 0, .int .u8 0, .int .u8 0, .int .u8 0, .int .u8 0, .int .u64 0, .int .u64 0, .pointer none, .int .u16 0] 40) = wc at hSc hth hADc ⊢
            generalize wb.heap.size = ns at *
            refine held_one 9 rfl (by kernel_rfl) rfl (fun K hK => ?_)
            simp only [List.getElem_toArray, List.getElem_cons_succ, List.getElem_cons_zero]
            have key := fun o a h1 h2 h3 K Q h4 => store40 (fun _ => 0) 0 none 0 ns 0 o a (.tmp 16) (.tmp 51) h1 h2 h3 K Q hth h4
            refine key _ _ ?qx1 ?qx2 ?qx3 _ _ ?qx4
            case qx1 => rfl
            case qx2 => rfl
            case qx3 => rfl
            have hSs : (wc.setCells ns 0 zcon.toList).rangeAt nc 0 (conA (fun i => (B i : Int)) l z p).toList := World.rangeAt_setCells_apart hSc _ _ _ (.inl (by omega))
            refine hK.out _ _ hSs ?_
            clear hK K key
            simp only [Act.put, List.setIfInBounds_toArray, List.set_cons_zero, List.set_cons_succ]
            refine held_take 10 (some 17) (.bool ok) rfl rfl (by kernel_rfl) (by kernel_rfl) (by kernel_rfl) (fun _ _ _ h => h) rfl hSs (fun w9 _ => by kernel_rfl) ?_
            simp only [Act.put, List.setIfInBounds_toArray, List.set_cons_zero, List.set_cons_succ]
            refine wpAnyH_done (by kernel_rfl) ?_ _
            have fin := hADc.after hwb HT3.out.lt hth
            go_wp2
            go_meet
            exact fin
          · go_simp
            have hSc : (wa.alloc (.cells #[.int .u8 0, .int .u8 0, .int .u8 0, .int .u8 0, .int .u8 0, .int .u8 0, .int .u8 0, .int .u8 0, .int .u8 0, .int .u8 0, .int .u8 0, .int .u8 0, .int .u8 0, .int .u8 0, .int .u8 0, .int .u8 0, .int .u8 0, .int .u8 0, .int .u8 0, .int .u8 0, .int .u64 0, .int .u64 0, .pointer none, .int .u16 0] 40)).rangeAt nc 0 (conA (fun i => (B i : Int)) l z p).toList := World.rangeAt_alloc hSa _
            have hth : (wa.alloc (.cells #[.int .u8 0, .int .u8 0, .int .u8 0, .int .u8 0, .int .u8 0, .int .u8 0, .int .u8 0, .int .u8 0, .int .u8 0, .int .u8 0, .int .u8 0, .int .u8 0, .int .u8 0, .int .u8 0, .int .u8 0, .int .u8 0, .int .u8 0, .int .u8 0, .int .u8 0, .int .u8 0, .int .u64 0, .int .u64 0, .pointer none, .int .u16 0] 40)).there wa.heap.size 0 24 := there_new _ _ _ _ (Nat.le_refl _)
            have hBc : Below W3.heap.size W3 (wa.alloc (.cells #[.int .u8 0, .int .u8 0, .int .u8 0, .int .u8 0, .int .u8 0, .int .u8 0, .int .u8 0, .int .u8 0, .int .u8 0, .int .u8 0, .int .u8 0, .int .u8 0, .int .u8 0, .int .u8 0, .int .u8 0, .int .u8 0, .int .u8 0, .int .u8 0, .int .u8 0, .int .u8 0, .int .u64 0, .int .u64 0, .pointer none, .int .u16 0] 40)) := hBa.alloc hBa.size _
            have hns := hBa.size
            have hnl : wa.heap.size < (wa.alloc (.cells #[.int .u8 0, .int .u8 0, .int .u8 0, .int .u8 0, .int .u8 0, .int .u8 0, .int .u8 0, .int .u8 0, .int .u8 0, .int .u8 0, .int .u8 0, .int .u8 0, .int .u8 0, .int .u8 0, .int .u8 0, .int .u8 0, .int .u8 0, .int .u8 0, .int .u8 0, .int .u8 0, .int .u64 0, .int .u64 0, .pointer none, .int .u16 0] 40)).heap.size := by simp
            refine hK.out _ _ hSc ?_
            clear hK K hBa hSa
            generalize wa.alloc (.cells #[.int .u8 0, .int .u8 0, .int .u8 0, .int .u8 0, .int .u8 0, .int .u8 0, .int .u8 0, .int .u8 0, .int .u8 0, .int .u8 0, .int .u8 0, .int .u8 0, .int .u8 0, .int .u8 0, .int .u8 0, .int .u8 0, .int .u8 0, .int .u8 0, .int .u8 0, .int .u8 0, .int .u64 0, .int .u64 0, .pointer none, .int .u16 0] 40) = wc at hSc hth hBc hnl ⊢
            generalize wa.heap.size = ns at *
            refine held_one 4 rfl (by kernel_rfl) rfl (fun K hK => ?_)
            go_simp
            refine (zadd_any A B H1.out H2.out k l p x y z tb wc (HT3.out.below hBc) hk1).mono ?_
            rintro e wb ⟨ok, rfl, hAd⟩
            have hSb := (range_added (o := 0) hAd (Nat.lt_of_lt_of_le hc3 hBc.size) (by omega)).1 hSc
            have hthb := (range_added (o := 0) (cs := []) hAd hnl (by have := HT3.out.lt; omega)).2 24 hth
            refine hK.out _ _ hSb ?_
            clear hK K
            refine held_take 5 (some 45) (.tuple #[.agg zcon, .bool ok]) rfl rfl (by kernel_rfl) (by kernel_rfl) (by kernel_rfl) (fun _ _ _ h => h) rfl hSb (fun w9 _ => by kernel_rfl) ?_
            simp only [Act.put, List.setIfInBounds_toArray, List.set_cons_zero, List.set_cons_succ]
            refine held_take 6 (some 51) (.agg zcon) rfl rfl (by kernel_rfl) (by kernel_rfl) (by kernel_rfl) (fun _ _ _ h => h) rfl hSb (fun w9 _ => by kernel_rfl) ?_
            simp only [Act.put, List.setIfInBounds_toArray, List.set_cons_zero, List.set_cons_succ]
            refine held_take 7 (some 52) (.bool ok) rfl rfl (by kernel_rfl) (by kernel_rfl) (by kernel_rfl) (fun _ _ _ h => h) rfl hSb (fun w9 _ => by kernel_rfl) ?_
            simp only [Act.put, List.setIfInBounds_toArray, List.set_cons_zero, List.set_cons_succ]
            have hAD := AD_of (ns := ns) (HT3.out.below hBc) hBc hAd (.inl hnl)
            refine held_one 9 rfl (by kernel_rfl) rfl (fun K hK => ?_)
            simp only [List.getElem_toArray, List.getElem_cons_succ, List.getElem_cons_zero]
            have key := fun o a h1 h2 h3 K Q h4 => store40 (fun _ => 0) 0 none 0 ns 0 o a (.tmp 16) (.tmp 51) h1 h2 h3 K Q hthb h4
            refine key _ _ ?qy1 ?qy2 ?qy3 _ _ ?qy4
            case qy1 => rfl
            case qy2 => rfl
            case qy3 => rfl
            have hSs : (wb.setCells ns 0 zcon.toList).rangeAt nc 0 (conA (fun i => (B i : Int)) l z p).toList := World.rangeAt_setCells_apart hSb _ _ _ (.inl (by omega))
            refine hK.out _ _ hSs ?_
            clear hK K key
            simp only [Act.put, List.setIfInBounds_toArray, List.set_cons_zero, List.set_cons_succ]
            refine held_take 10 (some 17) (.bool ok) rfl rfl (by kernel_rfl) (by kernel_rfl) (by kernel_rfl) (fun _ _ _ h => h) rfl hSs (fun w9 _ => by kernel_rfl) ?_
            simp only [Act.put, List.setIfInBounds_toArray, List.set_cons_zero, List.set_cons_succ]
            refine wpAnyH_done (by kernel_rfl) ?_ _
            have fin := hAD.after hns HT3.out.lt hthb
            go_wp2
            go_meet
            exact fin
        · go_simp
          have hSc : (W3.alloc (.cells #[.int .u8 0, .int .u8 0, .int .u8 0, .int .u8 0, .int .u8 0, .int .u8 0, .int .u8 0, .int .u8 0, .int .u8 0, .int .u8 0, .int .u8 0, .int .u8 0, .int .u8 0, .int .u8 0, .int .u8 0, .int .u8 0, .int .u8 0, .int .u8 0, .int .u8 0, .int .u8 0, .int .u64 0, .int .u64 0, .pointer none, .int .u16 0] 40)).drew.rangeAt nc 0 (conA (fun i => (B i : Int)) l z p).toList := World.rangeAt_alloc HR3.out _
          have hth : (W3.alloc (.cells #[.int .u8 0, .int .u8 0, .int .u8 0, .int .u8 0, .int .u8 0, .int .u8 0, .int .u8 0, .int .u8 0, .int .u8 0, .int .u8 0, .int .u8 0, .int .u8 0, .int .u8 0, .int .u8 0, .int .u8 0, .int .u8 0, .int .u8 0, .int .u8 0, .int .u8 0, .int .u8 0, .int .u64 0, .int .u64 0, .pointer none, .int .u16 0] 40)).drew.there W3.heap.size 0 24 := there_new _ _ _ _ (Nat.le_refl _)
          have hBc : Below W3.heap.size W3 (W3.alloc (.cells #[.int .u8 0, .int .u8 0, .int .u8 0, .int .u8 0, .int .u8 0, .int .u8 0, .int .u8 0, .int .u8 0, .int .u8 0, .int .u8 0, .int .u8 0, .int .u8 0, .int .u8 0, .int .u8 0, .int .u8 0, .int .u8 0, .int .u8 0, .int .u8 0, .int .u8 0, .int .u8 0, .int .u64 0, .int .u64 0, .pointer none, .int .u16 0] 40)).drew := ((Below.refl _ _).alloc (Nat.le_refl _) _).drew
          have hns : W3.heap.size ≤ W3.heap.size := Nat.le_refl _
          have hnl : W3.heap.size < (W3.alloc (.cells #[.int .u8 0, .int .u8 0, .int .u8 0, .int .u8 0, .int .u8 0, .int .u8 0, .int .u8 0, .int .u8 0, .int .u8 0, .int .u8 0, .int .u8 0, .int .u8 0, .int .u8 0, .int .u8 0, .int .u8 0, .int .u8 0, .int .u8 0, .int .u8 0, .int .u8 0, .int .u8 0, .int .u64 0, .int .u64 0, .pointer none, .int .u16 0] 40)).drew.heap.size := by simp
          refine hK.out _ _ hSc ?_
          clear hK K
          generalize (W3.alloc (.cells #[.int .u8 0, .int .u8 0, .int .u8 0, .int .u8 0, .int .u8 0, .int .u8 0, .int .u8 0, .int .u8 0, .int .u8 0, .int .u8 0, .int .u8 0, .int .u8 0, .int .u8 0, .int .u8 0, .int .u8 0, .int .u8 0, .int .u8 0, .int .u8 0, .int .u8 0, .int .u8 0, .int .u64 0, .int .u64 0, .pointer none, .int .u16 0] 40)).drew = wc at hSc hth hBc hnl ⊢
          refine held_one 3 rfl (by kernel_rfl) rfl (fun K hK => ?_)
          go_simp
          refine (time_any t _).mono ?_
          rintro e wa ⟨x, y, rfl, hba⟩
          have hBa : Below W3.heap.size W3 wa := hBc.trans (hba.mono hBc.size)
          have hSa : wa.rangeAt nc 0 (conA (fun i => (B i : Int)) l z p).toList := range_below hSc hba
          have htha : wa.there W3.heap.size 0 24 := there_below hth hba
          have hnla : W3.heap.size < wa.heap.size := Nat.lt_of_lt_of_le hnl hba.size
          refine hK.out _ _ hSa ?_
          clear hK K hth hnl hBc hba hSc
          refine held_one 4 rfl (by kernel_rfl) rfl (fun K hK => ?_)
          go_simp
          refine (zadd_any A B H1.out H2.out k l p x y z tb wa (HT3.out.below hBa) hk1).mono ?_
          rintro e wb ⟨ok, rfl, hAd⟩
          have hSb := (range_added (o := 0) hAd (Nat.lt_of_lt_of_le hc3 hBa.size) (by omega)).1 hSa
          have hthb := (range_added (o := 0) (cs := []) hAd hnla (by have := HT3.out.lt; omega)).2 24 htha
          refine hK.out _ _ hSb ?_
          clear hK K
          refine held_take 5 (some 45) (.tuple #[.agg zcon, .bool ok]) rfl rfl (by kernel_rfl) (by kernel_rfl) (by kernel_rfl) (fun _ _ _ h => h) rfl hSb (fun w9 _ => by kernel_rfl) ?_
          simp only [Act.put, List.setIfInBounds_toArray, List.set_cons_zero, List.set_cons_succ]
          refine held_take 6 (some 51) (.agg zcon) rfl rfl (by kernel_rfl) (by kernel_rfl) (by kernel_rfl) (fun _ _ _ h => h) rfl hSb (fun w9 _ => by kernel_rfl) ?_
          simp only [Act.put, List.setIfInBounds_toArray, List.set_cons_zero, List.set_cons_succ]
          refine held_take 7 (some 52) (.bool ok) rfl rfl (by kernel_rfl) (by kernel_rfl) (by kernel_rfl) (fun _ _ _ h => h) rfl hSb (fun w9 _ => by kernel_rfl) ?_
          simp only [Act.put, List.setIfInBounds_toArray, List.set_cons_zero, List.set_cons_succ]
          have hAD := AD_of (ns := W3.heap.size) (HT3.out.below hBa) hBa hAd (.inl hnla)
          refine held_one 9 rfl (by kernel_rfl) rfl (fun K hK => ?_)
          simp only [List.getElem_toArray, List.getElem_cons_succ, List.getElem_cons_zero]
          have key := fun o a h1 h2 h3 K Q h4 => store40 (fun _ => 0) 0 none 0 W3.heap.size 0 o a (.tmp 16) (.tmp 51) h1 h2 h3 K Q hthb h4
          refine key _ _ ?qz1 ?qz2 ?qz3 _ _ ?qz4
          case qz1 => rfl
          case qz2 => rfl
          case qz3 => rfl
          have hSs : (wb.setCells W3.heap.size 0 zcon.toList).rangeAt nc 0 (conA (fun i => (B i : Int)) l z p).toList := World.rangeAt_setCells_apart hSb _ _ _ (.inl (by omega))
          refine hK.out _ _ hSs ?_
          clear hK K key
          simp only [Act.put, List.setIfInBounds_toArray, List.set_cons_zero, List.set_cons_succ]
          refine held_take 10 (some 17) (.bool ok) rfl rfl (by kernel_rfl) (by kernel_rfl) (by kernel_rfl) (fun _ _ _ h => h) rfl hSs (fun w9 _ => by kernel_rfl) ?_
          simp only [Act.put, List.setIfInBounds_toArray, List.set_cons_zero, List.set_cons_succ]
          refine wpAnyH_done (by kernel_rfl) ?_ _
          have fin := hAD.after hns HT3.out.lt hthb
          go_wp2
          go_meet
          exact fin
      case rest =>
        obtain ⟨ns, q, rfl, rfl, hq160, hLz, hrs, hM⟩ := MS_of HS3.out HR3.out hcut htn hnc hnn hc3
        have HL : Hid (Lz (fun i => A i ^^^ B i) q) := hLz
        have HM : Hid (MS n nc tb q A B l z p w wc) := hM
        have HRs : Hid (wc.rangeAt ns 0 zcon.toList) := hrs
        clear hcut hLz hM hrs HS3 HT3 HR3
        have tok : True := trivial
        have tok2 : True := trivial
        have tok3 : True := trivial
        have tok4 : True := trivial
        have tok5 : True := trivial
        go_wp2_with (first | (have _t := tok; refine wpList_load40 (fun _ => 0) 0 none 0 ns 0 (.tmp 16) (World.rangeAt_alloc HRs.out _) (by rfl) (by rfl) (by rfl) ?_; clear tok) | (have _t := tok2; refine wpList_load40 (fun _ => 0) 0 none 0 wc.heap.size 0 (.tmp 18) (range_zero _) (by rfl) (by rfl) (by rfl) ?_; clear tok2) | (have _t := tok3; refine wpList_exec (by rfl) (exec_neq40 (.tmp 53) (.tmp 54) 40 (by rfl) (fun _ => 0) 0 none 0 (by rfl) (by rfl) _) ?_; clear tok3) | (have _t := tok4; refine wpList_load22 (fun i => (A i : Int)) n 0 (.tmp 6) (World.rangeAt_alloc HM.out.2.1 _) (by rfl) (by rfl) (by rfl) ?_; clear tok4) | (have _t := tok5; refine wpList_load22 (fun i => (B i : Int)) (n + 1) 0 (.tmp 8) (World.rangeAt_alloc HM.out.2.2.1 _) (by rfl) (by rfl) (by rfl) ?_; clear tok5))
        refine (of_any A B H1.out H2.out _).mono ?_
        rintro e w5 ⟨r, rfl, hF, hb5⟩
        have hr := first_lz HL.out hF
        have hM5 : MS n nc tb q A B l z p w w5 := (HM.out.below ((Below.refl _ _).alloc (Nat.le_refl _) _)).below hb5
        have HM5 : Hid (MS n nc tb q A B l z p w w5) := hM5
        subst hr
        clear hF hb5 hM5 HM HRs HL
        by_cases hq : q < 160
        · have hne : ¬ q = 160 := by omega
          rw [if_neg hne]
          have hd : decide (q < 160) = true := by simp [hq]
          rw [hd]
          clear hd hne
          go_wp2
          go_loopw [20] (fun v wr => ∃ b : Nat, b ≤ 160 ∧ v = .int .i64 b ∧ MS n nc tb q A B l z p w wr) (fun v _ => 160 - (intOf v).toNat)
          case atStart => exact ⟨0, Nat.zero_le _, rfl, HM5.out⟩
          case round =>
            obtain ⟨b, hb, rfl, hMr⟩ := hrel
            have HMr : Hid (MS n nc tb q A B l z p w wr) := hMr
            clear hMr HM5
            by_cases hlt : b < 160
            · by_cases hbq : b = q
              · obtain rfl := hbq
                obtain ⟨g, c, hcq, hrg⟩ := HMr.out.2.2.2.2.2.2 hq
                have hcn := HMr.out.2.2.2.1
                have HCq : Hid (wr.cell? ⟨tb, 22 + b, none⟩ = some (.slice (some ⟨g, 0, none⟩) 1 c)) := hcq
                have HRg : Hid (wr.rangeAt g 0 (conA (fun i => (B i : Int)) l z p).toList) := hrg
                have HCn : Hid (wr.rangeAt nc 0 (conA (fun i => (B i : Int)) l z p).toList) := hcn
                clear hcq hrg hcn
                have hq' : (b : Int) < 160 := by omega
                go_wp2_with (go_at_call 5; refine (bucketLen_any tb b (some ⟨g, 0, none⟩) 1 c hq _ HCq.out).mono ?_; rintro e w' ⟨rfl, hw⟩; have hw2 := hw.symm; subst hw2)
                refine wp_region_held_drew (S := fun w' => w'.rangeAt nc 0 (conA (fun i => (B i : Int)) l z p).toList) (by kernel_rfl) HCn.out (fun hH => ?_)
                refine held_take 0 (some 78) (.int .i64 1) rfl rfl (by kernel_rfl) (by kernel_rfl) (by kernel_rfl) (fun _ _ _ h => h) rfl hH (fun w9 _ => by kernel_rfl) ?_
                simp only [Act.put, List.setIfInBounds_toArray, List.set_cons_zero, List.set_cons_succ]
                refine held_take 1 (some 79) (.bool false) rfl rfl (by kernel_rfl) (by kernel_rfl) (by kernel_rfl) (fun _ _ _ h => h) rfl hH (fun w9 _ => by kernel_rfl) ?_
                simp only [Act.put, List.setIfInBounds_toArray, List.set_cons_zero, List.set_cons_succ]
                refine held_take 2 (some 80) (.bool false) rfl rfl (by kernel_rfl) (by kernel_rfl) (by kernel_rfl) (fun _ _ _ h => h) rfl hH (fun w9 _ => by kernel_rfl) ?_
                simp only [Act.put, List.setIfInBounds_toArray, List.set_cons_zero, List.set_cons_succ]
                refine held_take 3 (some 81) (.pointer (some ⟨tb, 0, none⟩)) rfl rfl (by kernel_rfl) (by kernel_rfl) (by kernel_rfl) (fun _ _ _ h => h) rfl hH (fun w9 _ => by kernel_rfl) ?_
                simp only [Act.put, List.setIfInBounds_toArray, List.set_cons_zero, List.set_cons_succ]
                refine held_take 4 (some 82) (.int .i64 b) rfl rfl (by kernel_rfl) (by kernel_rfl) (by kernel_rfl) (fun _ _ _ h => h) rfl hH (fun w9 _ => by kernel_rfl) ?_
                simp only [Act.put, List.setIfInBounds_toArray, List.set_cons_zero, List.set_cons_succ]
                refine held_take 6 (some 84) (.agg (conA (fun i => (B i : Int)) l z p)) rfl rfl (by kernel_rfl) (by kernel_rfl) (by kernel_rfl) (fun _ _ _ h => h) rfl hH (fun w9 h9 => exec_load 40 (.tmp 15) rfl nc 0 rfl (conA (fun i => (B i : Int)) l z p).toList _ Tryd.underlying40 rfl (sz40 _ l z p) w9 h9) ?_
                simp only [Act.put, List.setIfInBounds_toArray, List.set_cons_zero, List.set_cons_succ]
                refine held_one 5 rfl (by kernel_rfl) rfl (fun K hK => ?_)
                go_simp
                refine (bucketContact_any (fun i => (B i : Int)) l z p tb b g c hq wr.drew HCq.out HRg.out).mono ?_
                rintro e w6 ⟨rfl, hb6⟩
                have hS6 : w6.rangeAt nc 0 (conA (fun i => (B i : Int)) l z p).toList := range_below hH hb6
                have hM6 : MS n nc tb b A B l z p w w6 := HMr.out.below (((Below.refl _ _).drew).trans hb6)
                refine hK.out _ _ hS6 ?_
                clear hK K
                refine held_take 7 (some 85) (.bool false) rfl rfl (by kernel_rfl) (by kernel_rfl) (by kernel_rfl) (fun _ _ _ h => h) rfl hS6 (fun w9 _ => exec_neq40 (.tmp 83) (.tmp 84) 40 rfl (fun i => (B i : Int)) l z p rfl rfl w9) ?_
                simp only [Act.put, List.setIfInBounds_toArray, List.set_cons_zero, List.set_cons_succ]
                refine held_take 8 (some 86) (.bool false) rfl rfl (by kernel_rfl) (by kernel_rfl) (by kernel_rfl) (fun _ _ _ h => h) rfl hS6 (fun w9 _ => by kernel_rfl) ?_
                simp only [Act.put, List.setIfInBounds_toArray, List.set_cons_zero, List.set_cons_succ]
                refine wpAnyH_done (by kernel_rfl) ?_ _
                have HM6 : Hid (MS n nc tb b A B l z p w w6) := hM6
                clear hM6 hS6 hb6 hH HMr HCq HRg HCn
                go_wp2
                go_roundw
                case rel => exact ⟨b + 1, by omega, by go_num, HM6.out⟩
                case measure => simp [intOf]; omega
              · have hbf : ((b : Int) == (q : Int)) = false := by simp; omega
                have hcell := HMr.out.2.2.2.2.2.1 b hlt hbq
                have HCe : Hid (wr.cell? ⟨tb, 22 + b, none⟩ = some (.slice none 0 0)) := hcell
                clear hcell hbq
                have hlt' : (b : Int) < 160 := by omega
                go_wp2_with (go_at_call 5; refine (bucketLen_any tb b none 0 0 hlt _ HCe.out).mono ?_; rintro e w' ⟨rfl, hw⟩; have hw2 := hw.symm; subst hw2)
                go_roundw
                case rel => exact ⟨b + 1, by omega, by go_num, HMr.out⟩
                case measure => simp [intOf]; omega
            · go_wp2
              go_ret
              exact ⟨rfl, HN.out ▸ HMr.out.1⟩
        · obtain rfl : q = 160 := by omega
          rw [if_pos rfl]
          have hd : decide (160 < 160) = false := by simp
          rw [hd]
          clear hd
          go_wp2
          go_loop [20] (fun v => ∃ b : Nat, b ≤ 160 ∧ v = .int .i64 b) (fun v => 160 - (intOf v).toNat)
          case atStart => exact ⟨0, Nat.zero_le _, rfl⟩
          case round =>
            obtain ⟨b, hb, rfl⟩ := hrel
            by_cases hlt : b < 160
            · have hbf : ((b : Int) == -1) = false := by simp
              have hcell := HM5.out.2.2.2.2.2.1 b hlt (by omega)
              have HCe : Hid (w5.cell? ⟨tb, 22 + b, none⟩ = some (.slice none 0 0)) := hcell
              clear hcell
              have hlt' : (b : Int) < 160 := by omega
              go_wp2_with (go_at_call 5; refine (bucketLen_any tb b none 0 0 hlt _ HCe.out).mono ?_; rintro e w' ⟨rfl, hw⟩; have hw2 := hw.symm; subst hw2)
              go_round
              case rel => exact ⟨b + 1, by omega, by go_num⟩
              case measure => simp [intOf]; omega
            · go_wp2
              go_ret
              exact ⟨rfl, HN.out ▸ HM5.out.1⟩
end Go.Proofs.Qxb6609384aDoor
