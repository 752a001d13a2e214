import Derived.Test.Qxb6609384aDoorAdd
namespace Go.Proofs.Qxb6609384aDoor
open Go.RowKit
set_option linter.unusedSimpArgs false

theorem zadd_end {n tb : Nat} {A B : Nat → Nat} {k : Int} {l : Int} {z : Option Addr} {p x y : Int} {w W0 w1 : World} {ok : Bool} (h : SA n tb A k (fun i => (B i : Int)) l z p x y w W0) (ha : Added A B l z p tb W0 w1 ok) :
    w1.there (n + 1 + 1) 0 24 ∧ ∀ cs, Added A B l z p tb w (w1.setCells (n + 1 + 1) 0 cs) ok := by
  obtain ⟨t, r1, r2, th, hb, hs, htb, hn⟩ := h
  obtain ⟨q, hq, hz, ⟨rfl, rfl, hB⟩ | ⟨hlt, rfl, hg, hc, g, c, hcq, hr, hg1, hg2⟩⟩ := ha
  · exact ⟨there_below th hB, fun cs => ⟨160, hq, hz, .inl ⟨rfl, rfl, by rw [hn]; exact below_setCells (by omega) _ _ _ (hb.trans (hB.mono (by omega)))⟩⟩⟩
  · refine ⟨fun j hj => ?_, fun cs => ⟨q, hq, hz, .inr ⟨hlt, rfl, grownBy_setCells (by omega) _ _ _ ⟨hg.os.trans hb.os, hg.tape.trans hb.tape, hg.output.trans hb.output, Nat.le_trans hb.size hg.size, fun k hk hne => (hg.block k (by omega) hne).trans (hb.block k (by omega))⟩, fun b hb hne => cell_apart (hc b hb hne) (by simp; omega), g, c, cell_apart hcq (by simp; omega), World.rangeAt_setCells_apart hr _ _ _ (by omega), by omega, Nat.lt_of_lt_of_le hg2 (below_setCells (Nat.zero_le _) _ _ _ (Below.refl 0 w1)).size⟩⟩⟩
    have e : w1.heap[n + 1 + 1]? = W0.heap[n + 1 + 1]? := hg.block (n + 1 + 1) hs (by simp; omega)
    rw [World.cell?_of_block (w := W0) (a := ⟨n + 1 + 1, 0 + j, none⟩) e, World.frozen?_of_block (w := W0) (a := ⟨n + 1 + 1, 0 + j, none⟩) e]
    exact th j hj

set_option maxRecDepth 100000 in
set_option maxHeartbeats 1600000 in
theorem zadd_any (A B : Nat → Nat) (hA : ∀ i, A i < 256) (hB : ∀ i, B i < 256) (k : Int) (l p x y : Int) (z : Option Addr) (tb : Nat) (w : World) (ht : TabAt w tb A k) (hk : 1 ≤ k) :
    Calls Tryd.prog 7 #[.pointer (some ⟨tb, 0, none⟩), .agg (conA (fun i => (B i : Int)) l z p), .agg #[.int .u64 x, .int .i64 y, .pointer none]] w fun e w' => ∃ ok, e = .returned (.tuple #[.agg zcon, .bool ok]) ∧ Added A B l z p tb w w' ok := by
  have HT : Hid (TabAt w tb A k) := ht
  have H1 : Hid (∀ i, A i < 256) := hA
  have H2 : Hid (∀ i, B i < 256) := hB
  clear ht hA hB
  have tok : True := trivial
  go_enter Tryd.func7, Tryd.ntmps7
  go_wp2_with (have _t := tok; refine wpList_load40 (fun i => (B i : Int)) l z p w.heap.size 0 (.tmp 4) (World.rangeAt_alloc (World.rangeAt_alloc (range_new' rfl) _) _) (by rfl) (by rfl) (by rfl) ?_; clear tok)
  have hS := SA_start w tb A k (fun i => (B i : Int)) l z p x y #[.int .u8 0, .int .u8 0, .int .u8 0, .int .u8 0, .int .u8 0, .int .u8 0, .int .u8 0, .int .u8 0, .int .u8 0, .int .u8 0, .int .u8 0, .int .u8 0, .int .u8 0, .int .u8 0, .int .u8 0, .int .u8 0, .int .u8 0, .int .u8 0, .int .u8 0, .int .u8 0, .int .u64 0, .int .u64 0, .pointer none, .int .u16 0] rfl HT.out
  generalize (((w.alloc (.cells (conA (fun i => (B i : Int)) l z p) 40)).alloc (.cells #[.int .u64 x, .int .i64 y, .pointer none] 46)).alloc (.cells #[.int .u8 0, .int .u8 0, .int .u8 0, .int .u8 0, .int .u8 0, .int .u8 0, .int .u8 0, .int .u8 0, .int .u8 0, .int .u8 0, .int .u8 0, .int .u8 0, .int .u8 0, .int .u8 0, .int .u8 0, .int .u8 0, .int .u8 0, .int .u8 0, .int .u8 0, .int .u8 0, .int .u64 0, .int .u64 0, .pointer none, .int .u16 0] 40)) = W0 at hS ⊢
  generalize hn : w.heap.size = n at hS ⊢
  have HN : Hid (w.heap.size = n) := hn
  clear hn HT
  refine (add_any2 A B H1.out H2.out k l p x y z tb W0 hS.1 hk).mono ?_
  rintro e w1 ⟨ok, rfl, hA1⟩
  obtain ⟨hth, hfin⟩ := zadd_end hS hA1
  have HTh : Hid (w1.there (n + 1 + 1) 0 24) := hth
  have HF : Hid (∀ cs, Added A B l z p tb w (w1.setCells (n + 1 + 1) 0 cs) ok) := hfin
  clear hS hA1 hth hfin
  have tok : True := trivial
  go_wp2_with (have _t := tok; refine wpList_store40z (n + 1 + 1) 0 (.tmp 6) (.tmp 12) HTh.out (by rfl) (by rfl) (by rfl) (by rfl) ?_; clear tok)
  have hr := World.rangeAt_setCells_same w1 (n + 1 + 1) 0 zcon.toList HTh.out
  exact bodyPost_ret (v := .tuple #[.agg zcon, .bool ok]) (results_cell2 Tryd.results7 (n + 1 + 1) 0 rfl rfl (run_loadVar_mid _ (n + 1 + 1) 0 40 zcon.toList _ hr Tryd.underlying40 rfl Tryd.size40)) rfl ⟨ok, rfl, HF.out _⟩
end Go.Proofs.Qxb6609384aDoor
