import Derived.Test.Qxb6609384aDoorAddA
namespace Go.Proofs.Qxb6609384aDoor
open Go.RowKit
set_option linter.unusedSimpArgs false

/-- A new table lies at block tb. -/
def TabAt (w : World) (tb : Nat) (A : Nat → Nat) (k : Int) : Prop :=
  w.rangeAt tb 0 (idA fun i => (A i : Int)).toList ∧ w.cell? ⟨tb, 20, none⟩ = some (.int .i64 k) ∧ (∀ b, b < 160 → w.cell? ⟨tb, 22 + b, none⟩ = some (.slice none 0 0)) ∧ w.cell? ⟨tb, 182, none⟩ = some (.slice none 0 0) ∧ (∀ i, w.frozen? ⟨tb, i, none⟩ = false)
theorem TabAt.lt {w : World} {tb : Nat} {A : Nat → Nat} {k : Int} (h : TabAt w tb A k) : tb < w.heap.size := World.block_lt_of_cell? w _ h.2.1
theorem TabAt.below {w w' : World} {tb : Nat} {A : Nat → Nat} {k : Int} (h : TabAt w tb A k) (hb : Below w.heap.size w w') : TabAt w' tb A k :=
  ⟨range_below h.1 hb, cell_below h.2.1 hb, fun b hb' => cell_below (h.2.2.1 b hb') hb, cell_below h.2.2.2.1 hb, fun i => by rw [hb.frozen (p := ⟨tb, i, none⟩) h.lt]; exact h.2.2.2.2 i⟩

theorem wpList_store40z {ops : Array Oper} {rest : List Oper} {op : Oper} {a : Act} {w : World} {Q : Exit → Act → World → Prop} (b o : Nat) (x y : Operand) (ht : w.there b o 24)
    (hgd : op.guard = none) (ho : op.op = .store 40 x y) (hx : a.eval x = .pointer (some ⟨b, o, none⟩)) (hy : a.eval y = .agg zcon) (h : wpList Tryd.prog ops Q rest (a.put op.dst undef) (w.setCells b o zcon.toList)) : wpList Tryd.prog ops Q (op :: rest) a w :=
  wpList_store40 (fun _ => 0) 0 none 0 b o x y ht hgd ho hx hy h

/-- What add's body finds behind its head: the table, the contact's box, the instant's box, the result's variable. -/
def SA (n tb : Nat) (A : Nat → Nat) (k : Int) (s : Nat → Int) (l : Int) (z : Option Addr) (p x y : Int) (w0 w : World) : Prop :=
  TabAt w tb A k ∧ w.rangeAt n 0 (conA s l z p).toList ∧ w.rangeAt (n + 1) 0 [.int .u64 x, .int .i64 y, .pointer none] ∧ w.there (n + 1 + 1) 0 24 ∧ Below n w0 w ∧ n + 1 + 1 < w.heap.size ∧ tb < n ∧ w0.heap.size = n
theorem SA.below {n tb : Nat} {A : Nat → Nat} {k : Int} {s : Nat → Int} {l : Int} {z : Option Addr} {p x y : Int} {w0 w w' : World} (h : SA n tb A k s l z p x y w0 w) (hb : Below w.heap.size w w') : SA n tb A k s l z p x y w0 w' :=
  ⟨h.1.below hb, range_below h.2.1 hb, range_below h.2.2.1 hb, there_below h.2.2.2.1 hb, h.2.2.2.2.1.trans (hb.mono (by have := h.2.2.2.2.2.1; omega)), Nat.lt_of_lt_of_le h.2.2.2.2.2.1 hb.size, h.2.2.2.2.2.2⟩
theorem SA_start (w : World) (tb : Nat) (A : Nat → Nat) (k : Int) (s : Nat → Int) (l : Int) (z : Option Addr) (p x y : Int) (C : Array Value) (hC : C.size = 24) (ht : TabAt w tb A k) :
    SA w.heap.size tb A k s l z p x y w (((w.alloc (.cells (conA s l z p) 40)).alloc (.cells #[.int .u64 x, .int .i64 y, .pointer none] 46)).alloc (.cells C 40)) :=
  have hb : Below w.heap.size w (((w.alloc (.cells (conA s l z p) 40)).alloc (.cells #[.int .u64 x, .int .i64 y, .pointer none] 46)).alloc (.cells C 40)) := (((Below.refl _ _).alloc (Nat.le_refl _) _).alloc (by simp) _).alloc (by simp; omega) _
  ⟨ht.below hb, World.rangeAt_alloc (World.rangeAt_alloc (range_new' rfl) _) _, World.rangeAt_alloc (range_new' (by simp)) _, there_new' (by simp) (by omega), hb, by simp, ht.lt, rfl⟩

theorem Tryd.size46 : (Tryd.prog.info? 46).map (·.size) = some 3 := by kernel_rfl
theorem wp_buildSlice {P : Program} {o : Oper} {a : Act} {w w' : World} {K : Act → World → Prop} {Q : Exit → Act → World → Prop} (t : TypeId) (n : Nat) (parts : Array (Nat × Operand)) (ho : o.op = .buildSlice t n parts) (ps : Array (Nat × Value)) (hp : (parts.map fun (i, x) => (i, a.eval x)) = ps)
    {v : Value} (hrun : (Instr.buildSlice t n ps).run P w = .ok v w') (h : K (a.put o.dst v) w') : o.wp P a w K Q := by
  subst hp
  unfold Oper.wp execOp
  simp only [ho, Sem.run_bind, hrun, Result.andThen_ok, Sem.run_pure]
  exact h

theorem add_mid (w w1 : World) (n tb : Nat) (A : Nat → Nat) (k : Int) (s : Nat → Int) (l : Int) (z : Option Addr) (p x y : Int) (ZZ : Array Value) (h : SA n tb A k s l z p x y w w1) :
    ∃ w3, w3 = ((w1.drew.alloc (.cells (entA s l z p x y) 63)).drew.alloc (.cells ((entA s l z p x y).toList.toArray ++ ZZ) 63)) ∧ SA n tb A k s l z p x y w w3 ∧ w3.rangeAt (w1.heap.size + 1) 0 (conA s l z p).toList := by
  have hb : Below w1.heap.size w1 ((w1.drew.alloc (.cells (entA s l z p x y) 63)).drew.alloc (.cells ((entA s l z p x y).toList.toArray ++ ZZ) 63)) := ((((Below.refl w1.heap.size w1).drew).alloc (Nat.le_refl _) _).drew).alloc (by simp) _
  refine ⟨_, rfl, h.below hb, ?_⟩
  have hr := range_new' (w := (w1.drew.alloc (.cells (entA s l z p x y) 63)).drew) (C := (entA s l z p x y).toList.toArray ++ ZZ) (t := 63) (n := w1.heap.size + 1) (by simp)
  have e : ((entA s l z p x y).toList.toArray ++ ZZ).toList = (conA s l z p).toList ++ ([.int .u64 x, .int .i64 y, .pointer none, .int .u64 0, .int .i64 0, .pointer none, .int .i64 0] ++ ZZ.toList) := by
    rw [Array.toList_append, List.toList_toArray, entA_con, List.append_assoc]
  rw [e] at hr
  exact range_left hr

/-- What stands once the entry lies in its bucket: seen from the world w0 in which add was called. -/
def SE (n tb q g cap : Nat) (s : Nat → Int) (l : Int) (z : Option Addr) (p : Int) (w0 w : World) : Prop :=
  w0.grownBy w (some tb) ∧ w.rangeAt g 0 (conA s l z p).toList ∧ (∀ b, b < 160 → b ≠ q → w.cell? ⟨tb, 22 + b, none⟩ = some (.slice none 0 0)) ∧ w.cell? ⟨tb, 22 + q, none⟩ = some (.slice (some ⟨g, 0, none⟩) 1 cap) ∧ w.there (n + 1 + 1) 0 24 ∧ tb < n ∧ n + 1 + 1 < g ∧ g < w.heap.size ∧ w0.heap.size = n
theorem SE.change {n tb q g cap : Nat} {s : Nat → Int} {l : Int} {z : Option Addr} {p : Int} {w0 w w5 : World} (hq : q < 160) (h : SE n tb q g cap s l z p w0 w) (hg : w.grownBy w5 (some tb)) (hc : ∀ i, i ≠ 182 → w5.cell? ⟨tb, i, none⟩ = w.cell? ⟨tb, i, none⟩) : SE n tb q g cap s l z p w0 w5 := by
  obtain ⟨h1, h2, h3, h4, h5, h6, h7, h8, h9⟩ := h
  have hs : ∀ b o, b < w.heap.size → b ≠ tb → w5.cell? ⟨b, o, none⟩ = w.cell? ⟨b, o, none⟩ := fun b o hb hne => World.cell?_of_block (hg.block b hb (fun e => hne (Option.some.inj e)))
  have hf : ∀ b o, b < w.heap.size → b ≠ tb → w5.frozen? ⟨b, o, none⟩ = w.frozen? ⟨b, o, none⟩ := fun b o hb hne => World.frozen?_of_block (hg.block b hb (fun e => hne (Option.some.inj e)))
  refine ⟨⟨hg.os.trans h1.os, hg.tape.trans h1.tape, hg.output.trans h1.output, Nat.le_trans h1.size hg.size, fun k hk hr => (hg.block k (Nat.lt_of_lt_of_le hk h1.size) hr).trans (h1.block k hk hr)⟩, fun j v hv => ?_, fun b hb hne => ?_, ?_, fun j hj => ?_, h6, h7, Nat.lt_of_lt_of_le h8 hg.size, h9⟩
  · rw [hs g _ h8 (by omega)]; exact h2 j v hv
  · rw [hc _ (by omega)]; exact h3 b hb hne
  · rw [hc _ (by omega)]; exact h4
  · rw [hs (n + 1 + 1) _ (by omega) (by omega), hf (n + 1 + 1) _ (by omega) (by omega)]; exact h5 j hj
theorem grownBy_setCells {w0 : World} {tb b : Nat} (hb : w0.heap.size ≤ b) : ∀ (cs : List Value) (o : Nat) (w : World), w0.grownBy w (some tb) → w0.grownBy (w.setCells b o cs) (some tb)
  | [], _, _, h => h
  | v :: r, o, w, h => by
    rw [World.setCells]
    exact grownBy_setCells hb r (o + 1) _ (grownBy_set h (a := ⟨b, o, none⟩) (.inr hb) v)
theorem SE.store {n tb q g cap : Nat} {s : Nat → Int} {l : Int} {z : Option Addr} {p : Int} {w0 w : World} (h : SE n tb q g cap s l z p w0 w) (cs : List Value) : SE n tb q g cap s l z p w0 (w.setCells (n + 1 + 1) 0 cs) := by
  obtain ⟨h1, h2, h3, h4, h5, h6, h7, h8, h9⟩ := h
  exact ⟨grownBy_setCells (by omega) _ _ _ h1, World.rangeAt_setCells_apart h2 _ _ _ (by omega), fun b hb hne => cell_apart (h3 b hb hne) (by simp; omega), cell_apart h4 (by simp; omega), World.there_setCells h5 _ _ _, h6, h7, Nat.lt_of_lt_of_le h8 (below_setCells (Nat.zero_le _) _ _ _ (Below.refl 0 w)).size, h9⟩
theorem SE_start {n tb q g cap : Nat} {A : Nat → Nat} {k : Int} {s : Nat → Int} {l : Int} {z : Option Addr} {p x y : Int} {w0 w : World} (hq : q < 160) (h : SA n tb A k s l z p x y w0 w) (hr : w.rangeAt g 0 (conA s l z p).toList) (hg : n + 1 + 1 < g) (hgl : g < w.heap.size) :
    SE n tb q g cap s l z p w0 (w.setCell ⟨tb, 22 + q, none⟩ (.slice (some ⟨g, 0, none⟩) 1 cap)) ∧ (w.setCell ⟨tb, 22 + q, none⟩ (.slice (some ⟨g, 0, none⟩) 1 cap)).cell? ⟨tb, 182, none⟩ = some (.slice none 0 0) ∧ (w.setCell ⟨tb, 22 + q, none⟩ (.slice (some ⟨g, 0, none⟩) 1 cap)).frozen? ⟨tb, 182, none⟩ = false ∧
      (w.setCell ⟨tb, 22 + q, none⟩ (.slice (some ⟨g, 0, none⟩) 1 cap)).rangeAt n 0 (conA s l z p).toList ∧ (w.setCell ⟨tb, 22 + q, none⟩ (.slice (some ⟨g, 0, none⟩) 1 cap)).rangeAt (n + 1) 0 [.int .u64 x, .int .i64 y, .pointer none] := by
  obtain ⟨t, r1, r2, th, hb, hs, htb, hn⟩ := h
  have ap : ∀ {b o : Nat} {cs : List Value}, b ≠ tb → w.rangeAt b o cs → (w.setCell ⟨tb, 22 + q, none⟩ (.slice (some ⟨g, 0, none⟩) 1 cap)).rangeAt b o cs := fun hne hr j v hv => by
    rw [World.cell?_setCell_other _ _ _ _ (by intro h; simp only [Addr.mk.injEq] at h; omega)]; exact hr j v hv
  refine ⟨⟨grownBy_set ⟨hb.os, hb.tape, hb.output, hb.size, fun k hk _ => hb.block k (by omega)⟩ (.inl rfl) _, ap (by omega) hr, fun b hb hne => ?_, set_here (t.2.2.1 q hq), fun j hj => ?_, htb, hg, by simpa using hgl, hn⟩, ?_, ?_, ap (by omega) r1, ap (by omega) r2⟩
  · rw [World.cell?_setCell_other _ _ _ _ (by intro h; simp only [Addr.mk.injEq] at h; omega)]; exact t.2.2.1 b hb
  · rw [World.cell?_setCell_other _ _ _ _ (by intro h; simp only [Addr.mk.injEq] at h; omega), World.frozen?_setCell]; exact th j hj
  · rw [World.cell?_setCell_other _ _ _ _ (by intro h; simp only [Addr.mk.injEq] at h; omega)]; exact t.2.2.2.1
  · rw [World.frozen?_setCell]; exact t.2.2.2.2 182

/-- What add leaves behind: q is the number of zero bits. -/
def Added (A B : Nat → Nat) (l : Int) (z : Option Addr) (p : Int) (tb : Nat) (w w' : World) (ok : Bool) : Prop := ∃ q, q ≤ 160 ∧ Lz (fun i => A i ^^^ B i) q ∧
  ((q = 160 ∧ ok = false ∧ Below w.heap.size w w') ∨
   (q < 160 ∧ ok = true ∧ w.grownBy w' (some tb) ∧ (∀ b, b < 160 → b ≠ q → w'.cell? ⟨tb, 22 + b, none⟩ = some (.slice none 0 0)) ∧
     ∃ g c, w'.cell? ⟨tb, 22 + q, none⟩ = some (.slice (some ⟨g, 0, none⟩) 1 c) ∧ w'.rangeAt g 0 (conA (fun i => (B i : Int)) l z p).toList ∧ w.heap.size ≤ g ∧ g < w'.heap.size))

set_option maxRecDepth 100000 in
set_option maxHeartbeats 1600000 in
theorem add_any2 (A B : Nat → Nat) (hA : ∀ i, A i < 256) (hB : ∀ i, B i < 256) (k : Int) (l p x y : Int) (z : Option Addr) (tb : Nat) (w : World) (ht : TabAt w tb A k) (hk : 1 ≤ k) :
    Calls Tryd.prog 14 #[.pointer (some ⟨tb, 0, none⟩), .agg (conA (fun i => (B i : Int)) l z p), .agg #[.int .u64 x, .int .i64 y, .pointer none]] w fun e w' => ∃ ok, e = .returned (.tuple #[.agg zcon, .bool ok]) ∧ Added A B l z p tb w w' ok := by
  have HT : Hid (TabAt w tb A k) := ht
  have H1 : Hid (∀ i, A i < 256) := hA
  have H2 : Hid (∀ i, B i < 256) := hB
  clear ht hA hB
  have tok : True := trivial
  go_enter Tryd.func14, Tryd.ntmps14
  go_wp2_with (have _t := tok; refine wpList_load27 (fun i => (B i : Int)) w.heap.size 0 (.tmp 15) (World.rangeAt_alloc (World.rangeAt_alloc (range_left (conA_id _ l z p ▸ range_new' rfl)) _) _) (by rfl) (by rfl) (by rfl) ?_; clear tok)
  have hS := SA_start w tb A k (fun i => (B i : Int)) l z p x y #[.int .u8 0, .int .u8 0, .int .u8 0, .int .u8 0, .int .u8 0, .int .u8 0, .int .u8 0, .int .u8 0, .int .u8 0, .int .u8 0, .int .u8 0, .int .u8 0, .int .u8 0, .int .u8 0, .int .u8 0, .int .u8 0, .int .u8 0, .int .u8 0, .int .u8 0, .int .u8 0, .int .u64 0, .int .u64 0, .pointer none, .int .u16 0] rfl HT.out
  generalize (((w.alloc (.cells (conA (fun i => (B i : Int)) l z p) 40)).alloc (.cells #[.int .u64 x, .int .i64 y, .pointer none] 46)).alloc (.cells #[.int .u8 0, .int .u8 0, .int .u8 0, .int .u8 0, .int .u8 0, .int .u8 0, .int .u8 0, .int .u8 0, .int .u8 0, .int .u8 0, .int .u8 0, .int .u8 0, .int .u8 0, .int .u8 0, .int .u8 0, .int .u8 0, .int .u8 0, .int .u8 0, .int .u8 0, .int .u8 0, .int .u64 0, .int .u64 0, .pointer none, .int .u16 0] 40)) = W0 at hS ⊢
  generalize hn : w.heap.size = n at hS ⊢
  have HN : Hid (w.heap.size = n) := hn
  clear hn HT
  refine (lookup_any A B H1.out H2.out tb W0 hS.1.1 hS.1.2.2.1).mono ?_
  rintro e w1 ⟨q, rfl, hq, hq160, hb⟩
  have hS1 := hS.below hb
  have HQ : Hid (Lz (fun i => A i ^^^ B i) q) := hq
  clear hS hq hb
  by_cases h160 : q < 160
  · rw [if_neg (by omega)]
    have cq := hS1.1.2.2.1 q h160
    have ck := hS1.1.2.1
    have HS : Hid (SA n tb A k (fun i => (B i : Int)) l z p x y w w1) := hS1
    clear hS1
    have h' : (q : Int) < 160 := by omega
    go_wp2
    clear cq ck
    have hR1 : w1.rangeAt n 0 (conA (fun i => (B i : Int)) l z p).toList := HS.out.2.1
    have hR2 : w1.rangeAt (n + 1) 0 [.int .u64 x, .int .i64 y, .pointer none] := HS.out.2.2.1
    refine wp_region_held_drew (S := fun w' => w'.rangeAt n 0 (conA (fun i => (B i : Int)) l z p).toList ∧ w'.rangeAt (n + 1) 0 [.int .u64 x, .int .i64 y, .pointer none]) (by kernel_rfl) ⟨hR1, hR2⟩ (fun hH => ?_)
    refine held_take 0 (some 60) (.pointer (some ⟨tb, 0, none⟩)) rfl rfl (by kernel_rfl) (by kernel_rfl) (by kernel_rfl) (fun _ _ _ h => h) rfl hH (fun w9 _ => by kernel_rfl) ?_
    simp only [Act.put, List.setIfInBounds_toArray, List.set_cons_zero, List.set_cons_succ]
    refine held_take 1 (some 61) (.int .i64 q) rfl rfl (by kernel_rfl) (by kernel_rfl) (by kernel_rfl) (fun _ _ _ h => h) rfl hH (fun w9 _ => by kernel_rfl) ?_
    simp only [Act.put, List.setIfInBounds_toArray, List.set_cons_zero, List.set_cons_succ]
    refine held_take 2 (some 62) (.slice none 0 0) rfl rfl (by kernel_rfl) (by kernel_rfl) (by kernel_rfl) (fun _ _ _ h => h) rfl hH (fun w9 _ => by kernel_rfl) ?_
    simp only [Act.put, List.setIfInBounds_toArray, List.set_cons_zero, List.set_cons_succ]
    refine held_take 3 (some 63) (.agg (conA (fun i => (B i : Int)) l z p)) rfl rfl (by kernel_rfl) (by kernel_rfl) (by kernel_rfl) (fun _ _ _ h => h) rfl hH (fun w9 h9 => exec_load 40 (.tmp 4) rfl n 0 rfl (conA _ l z p).toList _ Tryd.underlying40 rfl (sz40 _ l z p) w9 h9.1) ?_
    simp only [Act.put, List.setIfInBounds_toArray, List.set_cons_zero, List.set_cons_succ]
    refine held_take 4 (some 64) (.agg #[.int .u64 x, .int .i64 y, .pointer none]) rfl rfl (by kernel_rfl) (by kernel_rfl) (by kernel_rfl) (fun _ _ _ h => h) rfl hH (fun w9 h9 => exec_load 46 (.tmp 5) rfl (n + 1) 0 rfl [.int .u64 x, .int .i64 y, .pointer none] _ Tryd.underlying46 rfl Tryd.size46 w9 h9.2) ?_
    simp only [Act.put, List.setIfInBounds_toArray, List.set_cons_zero, List.set_cons_succ]
    refine held_take 5 (some 65) (.agg (entA (fun i => (B i : Int)) l z p x y)) rfl rfl (by kernel_rfl) (by kernel_rfl) (by kernel_rfl) (fun _ _ _ h => h) rfl hH (fun w9 _ => exec_build 63 #[(0, .tmp 63), (1, .tmp 64)] rfl _ _ (bld63 _ l z p x y) (by simp [Act.eval]) w9) ?_
    simp only [Act.put, List.setIfInBounds_toArray, List.set_cons_zero, List.set_cons_succ]
    refine held_take 8 (some 68) (.pointer (some ⟨tb, 0, none⟩)) rfl rfl (by kernel_rfl) (by kernel_rfl) (by kernel_rfl) (fun _ _ _ h => h) rfl hH (fun w9 _ => by kernel_rfl) ?_
    simp only [Act.put, List.setIfInBounds_toArray, List.set_cons_zero, List.set_cons_succ]
    refine held_take 9 (some 69) (.pointer (some ⟨tb, 22, none⟩)) rfl rfl (by kernel_rfl) (by kernel_rfl) (by kernel_rfl) (fun _ _ _ h => h) rfl hH (fun w9 _ => by kernel_rfl) ?_
    simp only [Act.put, List.setIfInBounds_toArray, List.set_cons_zero, List.set_cons_succ]
    refine held_one 6 rfl (by kernel_rfl) rfl (fun K hK => ?_)
    simp only [List.getElem_toArray, List.getElem_cons_succ, List.getElem_cons_zero]
    refine wp_buildSlice 51 1 #[(0, .tmp 65)] ?q1 #[(0, .agg (entA (fun i => (B i : Int)) l z p x y))] ?q2 (bslice (fun i => (B i : Int)) l z p x y _) ?_
    case q1 => rfl
    case q2 => simp [Act.eval]
    simp only [Act.put, List.setIfInBounds_toArray, List.set_cons_zero, List.set_cons_succ]
    have hH1 : (w1.drew.alloc (.cells (entA (fun i => (B i : Int)) l z p x y) 63)).rangeAt n 0 (conA (fun i => (B i : Int)) l z p).toList ∧ (w1.drew.alloc (.cells (entA (fun i => (B i : Int)) l z p x y) 63)).rangeAt (n + 1) 0 [.int .u64 x, .int .i64 y, .pointer none] := ⟨World.rangeAt_alloc hH.1 _, World.rangeAt_alloc hH.2 _⟩
    refine hK.out _ _ hH1 ?_
    clear hK K
    obtain ⟨cap, ZZ, hrun⟩ := app63 (fun i => (B i : Int)) l z p x y (w1.drew.alloc (.cells (entA (fun i => (B i : Int)) l z p x y) 63)) w1.drew.heap.size (range_new _ _ _)
    refine held_one 7 rfl (by kernel_rfl) rfl (fun K hK => ?_)
    simp only [List.getElem_toArray, List.getElem_cons_succ, List.getElem_cons_zero]
    refine wp_append2 51 51 (.tmp 62) (.tmp 66) ?q1 _ _ _ ?q2 ?q3 hrun ?_
    case q1 => rfl
    case q2 => rfl
    case q3 => rfl
    simp only [Act.put, List.setIfInBounds_toArray, List.set_cons_zero, List.set_cons_succ]
    have hH2 : ((w1.drew.alloc (.cells (entA (fun i => (B i : Int)) l z p x y) 63)).drew.alloc (.cells ((entA (fun i => (B i : Int)) l z p x y).toList.toArray ++ ZZ) 63)).rangeAt n 0 (conA (fun i => (B i : Int)) l z p).toList ∧ ((w1.drew.alloc (.cells (entA (fun i => (B i : Int)) l z p x y) 63)).drew.alloc (.cells ((entA (fun i => (B i : Int)) l z p x y).toList.toArray ++ ZZ) 63)).rangeAt (n + 1) 0 [.int .u64 x, .int .i64 y, .pointer none] := ⟨World.rangeAt_alloc (range_drew' hH1.1) _, World.rangeAt_alloc (range_drew' hH1.2) _⟩
    refine hK.out _ _ hH2 ?_
    clear hK K hrun
    obtain ⟨w3, hw3, hT3, hS3⟩ := add_mid w w1 n tb A k (fun i => (B i : Int)) l z p x y ZZ HS.out
    have hw3s : w1.heap.size + 1 < w3.heap.size := by rw [hw3]; simp
    have hn1 := HS.out.2.2.2.2.2.1
    rw [← hw3] at hH2 ⊢
    clear hw3 hH hH1 HS hR1 hR2
    refine held_take 10 (some 70) (.pointer (some ⟨tb, 22 + q, none⟩)) rfl rfl (by kernel_rfl) (by kernel_rfl) (by kernel_rfl) (fun _ _ _ h => h) rfl hH2 ?hy ?_
    case hy => intro w9 _; go_simp
    simp only [Act.put, List.setIfInBounds_toArray, List.set_cons_zero, List.set_cons_succ]
    refine held_one 11 rfl (by kernel_rfl) rfl (fun K hK => ?_)
    have cq := hT3.1.2.2.1 q h160
    have fq := hT3.1.2.2.2.2 (22 + q)
    go_simp
    have hgs : n + 1 + 1 < w1.heap.size + 1 := by have := hn1; omega
    obtain ⟨hE, hc182, hf182, e1, e2⟩ := SE_start (cap := cap) h160 hT3 hS3 hgs hw3s
    refine hK.out _ _ ⟨e1, e2⟩ ?_
    clear hK K hH2 hT3 hS3
    refine wpAnyH_done (by kernel_rfl) ?_ _
    generalize w3.setCell ⟨tb, 22 + q, none⟩ (.slice (some ⟨w1.heap.size + 1, 0, none⟩) 1 cap) = w4 at hE hc182 hf182 e1 e2 ⊢
    have m0 : w4.cell? ⟨n + 1, 0, none⟩ = some (.int .u64 x) := e2 0 _ rfl
    have m1 : w4.cell? ⟨n + 1, 1, none⟩ = some (.int .i64 y) := e2 1 _ rfl
    have m2 : w4.cell? ⟨n + 1, 2, none⟩ = some (.pointer none) := e2 2 _ rfl
    have HE : Hid (SE n tb q (w1.heap.size + 1) cap (fun i => (B i : Int)) l z p w w4) := hE
    have HC : Hid (w4.cell? ⟨tb, 182, none⟩ = some (.slice none 0 0)) := hc182
    have HF : Hid (w4.frozen? ⟨tb, 182, none⟩ = false) := hf182
    clear hE hc182 hf182 e1 e2 cq fq hw3s hgs hn1
    go_wp2_with fail
    refine (change_any x y tb q h160 _ HC.out HF.out).mono ?_
    rintro e w5 ⟨rfl, hg5, hc5, hf5⟩
    have hE5 := HE.out.change h160 hg5 hc5
    have ht5 := hE5.2.2.2.2.1
    have HE5 : Hid (SE n tb q (w1.heap.size + 1) cap (fun i => (B i : Int)) l z p w w5) := hE5
    have HT5 : Hid (w5.there (n + 1 + 1) 0 24) := ht5
    clear hE5 ht5 hg5 hc5 hf5 m0 m1 m2 HE HC HF
    have tok : True := trivial
    have tok2 : True := trivial
    go_wp2_with (first | (have _t := tok; refine wpList_build_is (by rfl) 40 #[] (by rfl) _ zcon bld40z (by simp) ?_; clear tok) | (have _t := tok2; refine wpList_store40z (n + 1 + 1) 0 (.tmp 6) (.tmp 75) HT5.out (by rfl) (by rfl) (by rfl) (by rfl) ?_; clear tok2))
    have hr := World.rangeAt_setCells_same w5 (n + 1 + 1) 0 zcon.toList HT5.out
    have hE6 := HE5.out.store zcon.toList
    exact bodyPost_ret (v := .tuple #[.agg zcon, .bool true]) (results_cell2 Tryd.results14 (n + 1 + 1) 0 rfl rfl (run_loadVar_mid _ (n + 1 + 1) 0 40 zcon.toList _ hr Tryd.underlying40 rfl Tryd.size40)) rfl ⟨true, rfl, q, hq160, HQ.out, .inr ⟨h160, rfl, hE6.1, hE6.2.2.1, _, _, hE6.2.2.2.1, hE6.2.1, by have := hE6.2.2.2.2.2.2.1; have := HN.out; omega, hE6.2.2.2.2.2.2.2.1⟩⟩
  · obtain rfl : q = 160 := by omega
    rw [if_pos rfl]
    have ht := hS1.2.2.2.1
    have HS : Hid (SA n tb A k (fun i => (B i : Int)) l z p x y w w1) := hS1
    clear hS1
    have HTh : Hid (w1.there (n + 1 + 1) 0 24) := ht
    clear ht
    have tok : True := trivial
    have tok2 : True := trivial
    go_wp2_with (first | (have _t := tok; refine wpList_build_is (by rfl) 40 #[] (by rfl) _ zcon bld40z (by simp) ?_; clear tok) | (have _t := tok2; refine wpList_store40z (n + 1 + 1) 0 (.tmp 6) (.tmp 22) HTh.out (by rfl) (by rfl) (by rfl) (by rfl) ?_; clear tok2))
    have hr := World.rangeAt_setCells_same w1 (n + 1 + 1) 0 zcon.toList HTh.out
    exact bodyPost_ret (v := .tuple #[.agg zcon, .bool false]) (results_cell2 Tryd.results14 (n + 1 + 1) 0 rfl rfl (run_loadVar_mid _ (n + 1 + 1) 0 40 zcon.toList _ hr Tryd.underlying40 rfl Tryd.size40)) rfl ⟨false, rfl, 160, by omega, HQ.out, .inl ⟨rfl, rfl, by rw [HN.out]; exact below_setCells (by omega) _ _ _ HS.out.2.2.2.2.1⟩⟩
end Go.Proofs.Qxb6609384aDoor
