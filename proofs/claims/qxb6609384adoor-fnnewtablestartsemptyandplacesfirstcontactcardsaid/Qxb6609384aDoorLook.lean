import Derived.Test.Qxb6609384aDoorBuck
import Derived.Laws.EntriesVeiled
namespace Go.Proofs.Qxb6609384aDoor
open Go.RowKit
set_option linter.unusedSimpArgs false

theorem indexFunc_nil (f : Value) (w : World) :
    Calls Tryd.prog 26 #[.slice none 0 0, f] w fun e w' => e = .returned (.int .i64 (-1)) ∧ w' = w := by
  go_enter Tryd.func26, Tryd.ntmps26
  go_wp2
  refine wp_loop_rounds 1 ?_
  rw [rounds_succ]
  go_wp2
  go_ret
  exact ⟨rfl, rfl⟩

set_option maxRecDepth 100000 in
set_option maxHeartbeats 800000 in
theorem lookup_any (A B : Nat → Nat) (hA : ∀ i, A i < 256) (hB : ∀ i, B i < 256) (tb : Nat) (w : World) (ht : w.rangeAt tb 0 (idA fun i => (A i : Int)).toList) (hc : ∀ b, b < 160 → w.cell? ⟨tb, 22 + b, none⟩ = some (.slice none 0 0)) :
    Calls Tryd.prog 16 #[.pointer (some ⟨tb, 0, none⟩), .agg (idA fun i => (B i : Int))] w fun e w' => ∃ q : Nat, e = .returned (.tuple #[.int .i64 (if q = 160 then -1 else (q : Int)), .int .i64 (-1)]) ∧ Lz (fun i => A i ^^^ B i) q ∧ q ≤ 160 ∧ Below w.heap.size w w' := by
  have HC : Hid (∀ b, b < 160 → w.cell? ⟨tb, 22 + b, none⟩ = some (.slice none 0 0)) := hc
  have HT : Hid (w.rangeAt tb 0 (idA fun i => (A i : Int)).toList) := ht
  have H1 : Hid (∀ i, A i < 256) := hA
  have H2 : Hid (∀ i, B i < 256) := hB
  clear hc ht hA hB
  have tok : True := trivial
  go_enter Tryd.func16, Tryd.ntmps16
  go_wp2_with (have _t := tok; refine wpList_load27 (fun i => (B i : Int)) w.heap.size 0 (.tmp 3) (range_new _ _ _) (by rfl) (by rfl) (by rfl) ?_; clear tok)
  refine (bucket_any A B H1.out H2.out tb _ (World.rangeAt_alloc HT.out _)).mono ?_
  rintro e w1 ⟨q, rfl, hq, hq160, hb⟩
  have HQ : Hid (Lz (fun i => A i ^^^ B i) q) := hq
  have hb1 : Below w.heap.size w w1 := ((Below.refl _ _).alloc (Nat.le_refl _) _).trans (hb.mono (by simp))
  have HB : Hid (Below w.heap.size w w1) := hb1
  clear hq hb hb1
  by_cases h160 : q < 160
  · rw [if_neg (by omega)]
    have hcell : w1.cell? ⟨tb, 22 + q, none⟩ = some (.slice none 0 0) := cell_below (HC.out q h160) HB.out
    have h' : (q : Int) < 160 := by omega
    go_wp2_with (go_at_call 26; refine (indexFunc_nil _ _).mono ?_; rintro e w' ⟨rfl, rfl⟩)
    go_ret2
    exact ⟨q, by rw [if_neg (by omega)]; rfl, HQ.out, hq160, HB.out⟩
  · obtain rfl : q = 160 := by omega
    rw [if_pos rfl]
    go_wp2
    go_ret2
    exact ⟨160, rfl, HQ.out, hq160, HB.out⟩
end Go.Proofs.Qxb6609384aDoor
