/-
  The law's own walk.
-/
import Derived.Test.Qxb6609486aWalks
import Derived.Laws.BitsAllLaws
namespace Go.Proofs.Qxb6609486a
open Go.RowKit

theorem pre_self (R : ByteArray) : pre R R = true := by
  simp [pre]
theorem pre_cut (R : ByteArray) (k : Nat) (hk : k ≤ R.size) : pre R (R.extract 0 k) = true := by
  have e : (R.extract 0 k).size = k := by simp; omega
  simp [pre, e, hk]
theorem pre_long (R p : ByteArray) (h : R.size < p.size) : pre R p = false := by
  simp [pre]; omega

theorem xor_byte (c : UInt8) : ∃ x : UInt8, bits .xor .u8 (c.toNat : Int) 128 = (x.toNat : Int) ∧ x ≠ c := by
  refine ⟨c ^^^ 128, ?_, fun h => ?_⟩
  · rw [UInt8.toNat_xor]
    exact u8_xor_nat c.toNat 128 (UInt8.toNat_lt c) (by decide)
  · have h2 := congrArg (fun y => c ^^^ y) h
    simp only [← UInt8.xor_assoc, UInt8.xor_self, UInt8.zero_xor] at h2
    exact absurd h2 (by decide)
theorem pre_changed (R : ByteArray) (k : Nat) (hk : k < R.size) (x : UInt8) (hx : x ≠ R[k]'hk) : pre R (R.extract 0 k ++ ⟨#[x]⟩) = false := by
  have e1 : (R.extract 0 k ++ (⟨#[x]⟩ : ByteArray)).size = k + 1 := by
    rw [ByteArray.size_append, ByteArray.size_extract]
    show min k R.size - 0 + 1 = k + 1
    omega
  unfold pre
  rw [e1]
  refine Bool.and_eq_false_iff.2 (.inr ?_)
  rw [beq_eq_false_iff_ne]
  intro h
  rw [ByteArray.toList_eq, ByteArray.toList_eq] at h
  apply hx
  have h2 := congrArg (·[k]?) h
  have hs : k < R.data.size := hk
  simp [List.getElem?_take, ByteArray.data_append, ByteArray.data_extract, List.getElem?_append] at h2
  have em : min k R.size = k := by omega
  rw [em, if_neg (by omega), Nat.sub_self, Array.getElem?_eq_getElem hs] at h2
  exact (Option.some.inj h2).symm
theorem cell_old {w : World} {a : Addr} {v : Value} (h : w.cell? a = some v) (o : Obj) : (w.alloc o).cell? a = some v := by
  rw [World.cell?_alloc_lt _ _ _ (World.block_lt_of_cell? w a h)]; exact h
theorem cell_new (w : World) (v : Value) (t : TypeId) : (w.alloc (.cells #[v] t)).cell? ⟨w.heap.size, 0, none⟩ = some v := by simp

theorem walk_long (a0 : ByteArray) (a1 a2 : Int) (h : 1048576 < a0.size) (w : World) :
    Calls Try.prog 4 #[.string a0, .int .i64 a1, .int .i64 a2] w fun e w' => e = .returned (.bool true) ∧ Grown w w' := by
  go_enter Try.func4, Try.ntmps4
  go_wp2_with (go_at_call 7; refine (zz_bytes_long _ _ _ h _).mono ?_; rintro e w' ⟨rfl, rfl⟩)
  go_ret
  exact ⟨rfl, Grown.refl _⟩

theorem walk_off (a0 : ByteArray) (a1 a2 : Int) (h : a0.size ≤ 1048576) (ho : a1 < 0 ∨ (a0.size : Int) < a1) (w : World) :
    Calls Try.prog 4 #[.string a0, .int .i64 a1, .int .i64 a2] w fun e w' => e = .returned (.bool true) ∧ Grown w w' := by
  rcases ho with ho | ho
  · go_enter Try.func4, Try.ntmps4
    go_wp2_with (go_at_call 7; refine (zz_bytes _ _ _ h _).mono ?_; rintro e w' ⟨rfl, rfl⟩)
    go_ret
    exact ⟨rfl, Grown.refl _⟩
  · have hn : ¬ a1 < 0 := by omega
    go_enter Try.func4, Try.ntmps4
    go_wp2_with (go_at_call 7; refine (zz_bytes _ _ _ h _).mono ?_; rintro e w' ⟨rfl, rfl⟩)
    go_ret
    exact ⟨rfl, Grown.refl _⟩

theorem walk_k (a0 : ByteArray) (off : Nat) (a2 : Int) (h : a0.size ≤ 1048576) (ho : off ≤ a0.size) (hk : a2 < 0 ∨ (a0.size : Int) - off < a2) (w : World) :
    Calls Try.prog 4 #[.string a0, .int .i64 off, .int .i64 a2] w fun e w' => e = .returned (.bool true) ∧ Grown w w' := by
  rcases hk with hk | hk
  · go_enter Try.func4, Try.ntmps4
    go_wp2_with (go_at_call 7; refine (zz_bytes _ _ _ h _).mono ?_; rintro e w' ⟨rfl, rfl⟩)
    go_ret
    exact ⟨rfl, Grown.refl _⟩
  · have hn : ¬ a2 < 0 := by omega
    go_enter Try.func4, Try.ntmps4
    go_wp2_with (go_at_call 7; refine (zz_bytes _ _ _ h _).mono ?_; rintro e w' ⟨rfl, rfl⟩)
    go_ret
    exact ⟨rfl, Grown.refl _⟩

theorem walk_in (a0 : ByteArray) (off k : Nat) (h : a0.size ≤ 1048576) (ho : off ≤ a0.size) (hk : k + off ≤ a0.size) (w : World) :
    Calls Try.prog 4 #[.string a0, .int .i64 off, .int .i64 k] w fun e w' => e = .returned (.bool true) ∧ Grown w w' := by
  go_enter Try.func4, Try.ntmps4
  go_wp2_with (first | (go_at_call 7; refine (zz_bytes _ _ _ h _).mono ?_; rintro e w' ⟨rfl, hw⟩; have hw2 := hw.symm; subst hw2) | (go_at_call 8; refine (newScanner _ _ _).mono ?_; rintro e w1 ⟨rfl, g1, h1, h2⟩))
  have H9 : ∀ p w2, w2.cell? ⟨w.heap.size, 1, none⟩ = some (.string a0) → w2.cell? ⟨w.heap.size, 2, none⟩ = some (.int .i64 off) → Calls Try.prog 9 #[.pointer (some ⟨w.heap.size, 0, none⟩), .string p] w2 fun e w' => e = .returned (.bool (pre (a0.extract off a0.size) p)) ∧ ∃ m, w' = w2.drewN m := by
    intro p w2 e1 e2
    exact zzStarts a0 off w.heap.size ho p w2 e1 e2
  have hR : (a0.extract off a0.size).size = a0.size - off := by simp
  generalize a0.extract off a0.size = R at hR H9 ⊢
  have hkR : k ≤ R.size := by omega
  refine (H9 _ _ (by exact h1) (by exact h2)).mono ?_
  rintro e w2 ⟨rfl, m, rfl⟩
  rw [pre_cut R k hkR]
  go_wp2_with (go_at_call 9; refine (H9 _ _ (by exact h1) (by exact h2)).mono ?_; rintro e w3 ⟨rfl, m2, rfl⟩; rw [pre_self])
  refine (H9 _ _ (by exact h1) (by exact h2)).mono ?_
  rintro e w4 ⟨rfl, m3, rfl⟩
  rw [pre_long R _ (by rw [ByteArray.size_append]; exact Nat.lt_succ_self _)]
  clear hR
  by_cases hkk : k < R.size
  · obtain ⟨x, hx, hne⟩ := xor_byte (R[k]'hkk)
    have hconv : ∀ n, (convert 28 9 (.slice (some ⟨w1.heap.size, 0, none⟩) 1 1)).run Try.prog ((w1.drewN n).alloc (.cells #[.int .u8 (x.toNat : Int)] 5)) =
        .ok (.string ⟨#[x]⟩) ((w1.drewN n).alloc (.cells #[.int .u8 (x.toNat : Int)] 5)) := by
      intro n
      refine run_convert_bytes_back _ 28 9 5 ⟨w1.heap.size, 0, none⟩ 1 [x] Try.underlying28 Try.underlying5 Try.underlying9 ?_
      intro j hj
      obtain rfl : j = 0 := by simpa using hj
      exact cell_new (w1.drewN n) _ _
    go_wp2
    go_region
    go_wp2_with (go_at_call 9; refine (H9 _ _ (by exact cell_old (w := w1.drewN _) h1 _) (by exact cell_old (w := w1.drewN _) h2 _)).mono ?_; rintro e w5 ⟨rfl, m5, rfl⟩; rw [pre_changed R k hkk x hne])
    go_ret
    exact ⟨rfl, g1.alloc _ _⟩
  · go_wp2
    go_ret
    exact ⟨rfl, g1⟩
end Go.Proofs.Qxb6609486a
