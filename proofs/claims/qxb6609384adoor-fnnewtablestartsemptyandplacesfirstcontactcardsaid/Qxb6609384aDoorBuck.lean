import Derived.Test.Qxb6609384aDoorDist
namespace Go.Proofs.Qxb6609384aDoor
open Go.RowKit
set_option linter.unusedSimpArgs false

/-- What the region of bucket finds: the table's own ID, the ID asked for. -/
def SB (tb n : Nat) (s t : Nat → Int) (w0 w : World) : Prop := w.rangeAt tb 0 (idA s).toList ∧ w.rangeAt n 0 (idA t).toList ∧ Below n w0 w ∧ n ≤ w.heap.size
theorem SB.drew {tb n : Nat} {s t : Nat → Int} {w0 w : World} (h : SB tb n s t w0 w) : SB tb n s t w0 w.drew := ⟨h.1, h.2.1, h.2.2.1.drew, h.2.2.2⟩
theorem SB.below {tb n : Nat} {s t : Nat → Int} {w0 w w' : World} (hb : Below w.heap.size w w') (h : SB tb n s t w0 w) : SB tb n s t w0 w' :=
  ⟨range_below h.1 hb, range_below h.2.1 hb, h.2.2.1.trans (hb.mono h.2.2.2), Nat.le_trans h.2.2.2 hb.size⟩

set_option maxHeartbeats 800000 in
theorem bucket_any (A B : Nat → Nat) (hA : ∀ i, A i < 256) (hB : ∀ i, B i < 256) (tb : Nat) (w : World) (ht : w.rangeAt tb 0 (idA fun i => (A i : Int)).toList) :
    Calls Tryd.prog 25 #[.pointer (some ⟨tb, 0, none⟩), .agg (idA fun i => (B i : Int))] w fun e w' => ∃ q : Nat, e = .returned (.int .i64 (if q = 160 then -1 else (q : Int))) ∧ Lz (fun i => A i ^^^ B i) q ∧ q ≤ 160 ∧ Below w.heap.size w w' := by
  have hX : ∀ i, (fun i => A i ^^^ B i) i < 256 := fun i => Nat.xor_lt_two_pow (n := 8) (hA i) (hB i)
  have hS : SB tb w.heap.size (fun i => (A i : Int)) (fun i => (B i : Int)) w (w.alloc (.cells (idA fun i => (B i : Int)) 27)) := ⟨World.rangeAt_alloc ht _, range_new _ _ _, (Below.refl _ _).alloc (Nat.le_refl _) _, by simp⟩
  have HS : Hid (SB tb w.heap.size (fun i => (A i : Int)) (fun i => (B i : Int)) w (w.alloc (.cells (idA fun i => (B i : Int)) 27))) := hS
  have H1 : Hid (∀ i, A i < 256) := hA
  have H2 : Hid (∀ i, B i < 256) := hB
  have H3 : Hid _ := hX
  clear hS hA hB hX ht
  go_enter Tryd.func25, Tryd.ntmps25
  go_wp2
  have hS := HS.out
  generalize hW : w.alloc (.cells (idA fun i => (B i : Int)) 27) = W at hS ⊢
  generalize hn : w.heap.size = n at hS ⊢
  have HN : Hid (w.heap.size = n) := hn
  clear hn
  refine wp_region_held_drew (S := SB tb n (fun i => (A i : Int)) (fun i => (B i : Int)) w) (by kernel_rfl) hS.drew (fun hH => ?_)
  refine held_take 0 (some 6) (.pointer (some ⟨tb, 0, none⟩)) rfl rfl (by kernel_rfl) (by kernel_rfl) (by kernel_rfl) (fun _ _ _ h => h) rfl hH (fun w1 _ => by kernel_rfl) ?_
  refine held_take 1 (some 7) (.pointer (some ⟨tb, 0, none⟩)) rfl rfl (by kernel_rfl) (by kernel_rfl) (by kernel_rfl) (fun _ _ _ h => h) rfl hH (fun w1 _ => by kernel_rfl) ?_
  refine held_take 2 (some 8) (.pointer (some ⟨tb, 0, none⟩)) rfl rfl (by kernel_rfl) (by kernel_rfl) (by kernel_rfl) (fun _ _ _ h => h) rfl hH (fun w1 _ => by kernel_rfl) ?_
  refine held_take 3 (some 9) (.agg (idA fun i => (A i : Int))) rfl rfl (by kernel_rfl) (by kernel_rfl) (by kernel_rfl) (fun _ _ _ h => h) rfl hH (fun w1 h1 => exec_load 27 (.tmp 8) rfl tb 0 rfl (idA _).toList _ Tryd.underlying27 rfl (sz27 _) w1 h1.1) ?_
  refine held_take 4 (some 10) (.agg (idA fun i => (B i : Int))) rfl rfl (by kernel_rfl) (by kernel_rfl) (by kernel_rfl) (fun _ _ _ h => h) rfl hH (fun w1 h1 => exec_load 27 (.tmp 3) rfl n 0 rfl (idA _).toList _ Tryd.underlying27 rfl (sz27 _) w1 h1.2.1) ?_
  simp only [Act.put, List.setIfInBounds_toArray, List.set_cons_zero, List.set_cons_succ]
  refine held_one 5 rfl (by kernel_rfl) rfl (fun K hK => ?_)
  go_simp
  refine (dist_any A B H1.out H2.out _).mono ?_
  rintro e w1 ⟨rfl, hb⟩
  have hH1 := hH.below hb
  refine hK.out _ _ hH1 ?_
  clear hK K hb hH
  refine held_one 6 rfl (by kernel_rfl) rfl (fun K hK => ?_)
  go_simp
  refine (lz_any (fun i => A i ^^^ B i) H3.out _).mono ?_
  rintro e w2 ⟨⟨q, rfl, hq, hq160⟩, hw2⟩
  have hb2 : Below w1.heap.size w1 w2 := by rw [hw2]; exact (Below.refl _ _).alloc (Nat.le_refl _) _
  have hH2 := hH1.below hb2
  refine hK.out _ _ hH2 ?_
  clear hK K hb2 hw2 hH1
  refine held_take 7 (some 5) (.int .i64 q) rfl rfl (by kernel_rfl) (by kernel_rfl) (by kernel_rfl) (fun _ _ _ h => h) rfl hH2 (fun w1 _ => by kernel_rfl) ?_
  simp only [Act.put, List.setIfInBounds_toArray, List.set_cons_zero, List.set_cons_succ]
  refine wpAnyH_done (by kernel_rfl) ?_ _
  have HQ : Hid (Lz (fun i => A i ^^^ B i) q) := hq
  have HB : Hid (Below n w w2) := hH2.2.2.1
  clear hq hH2 hS hW
  by_cases h160 : q < 160
  · go_wp2
    go_ret
    exact ⟨q, by rw [if_neg (by omega)]; rfl, HQ.out, hq160, HN.out ▸ HB.out⟩
  · obtain rfl : q = 160 := by omega
    go_wp2
    go_ret
    exact ⟨160, rfl, HQ.out, hq160, HN.out ▸ HB.out⟩
end Go.Proofs.Qxb6609384aDoor
