import Derived.Test.Qxb6609384aDoorRows
import Derived.WalkKit
import Derived.WalkSpells
import Derived.WalkLawsBesides
import Derived.Laws.BitsAllLaws
namespace Go.Proofs.Qxb6609384aDoor
open Go.RowKit

/-- Behind a contract that ends in 'Below': every old cell and mark is as it was. -/
theorem bcell {W w1 : World} (hb : Below W.heap.size W w1) : (∀ b o, b < W.heap.size → w1.cell? ⟨b, o, none⟩ = W.cell? ⟨b, o, none⟩) ∧ (∀ b o, b < W.heap.size → w1.frozen? ⟨b, o, none⟩ = W.frozen? ⟨b, o, none⟩) :=
  ⟨fun b o h => hb.cell (p := ⟨b, o, none⟩) h, fun b o h => hb.frozen (p := ⟨b, o, none⟩) h⟩

theorem and0 : bits BinOp.and IntKind.u64 0 1073741823 = 0 := by decide
theorem nsec_any (b : Nat) (w : World) (h0 : w.cell? ⟨b, 0, none⟩ = some (.int .u64 0)) :
    Calls Tryd.prog 22 #[.pointer (some ⟨b, 0, none⟩)] w fun e w' => e = .returned (.int .i32 0) ∧ w' = w := by
  have ha := and0
  have hz : wrap32 0 = 0 := by unfold wrap32; rfl
  go_enter Tryd.func22, Tryd.ntmps22
  go_wp2
  go_ret
  exact ⟨rfl, rfl⟩

set_option maxHeartbeats 400000 in
theorem addSec_any (b : Nat) (x d : Int) (w : World) (h0 : w.cell? ⟨b, 0, none⟩ = some (.int .u64 x)) (h1 : w.cell? ⟨b, 1, none⟩ = some (.int .i64 0)) (z1 : w.frozen? ⟨b, 1, none⟩ = false) 
    (hx : (bits BinOp.and IntKind.u64 x 9223372036854775808 != 0) = false) :
    Calls Tryd.prog 23 #[.pointer (some ⟨b, 0, none⟩), .int .i64 d] w fun e w' => e = .returned (.tuple #[]) ∧ ∃ y, w' = w.setCell ⟨b, 1, none⟩ (.int .i64 y) := by
  go_enter Tryd.func23, Tryd.ntmps23
  go_wp2
  all_goals (go_end0; exact ⟨rfl, _, rfl⟩)

theorem mono0 (q : Int) (h0 : 0 ≤ q) (h1 : q < 1000000000) : (bits BinOp.and IntKind.u64 (bits BinOp.or IntKind.u64 (bits BinOp.andNot IntKind.u64 0 1073741823) q) 9223372036854775808 != 0) = false := by
  have e : bits BinOp.andNot IntKind.u64 0 1073741823 = 0 := by decide
  obtain ⟨n, rfl⟩ := Int.eq_ofNat_of_zero_le h0
  rw [e, u64_or _ _ (by omega) (by omega) (by omega) (by omega)]
  simp only [Int.toNat_zero, Nat.zero_or, Int.toNat_natCast]
  rw [u64_and _ _ (by omega) (by omega) (by omega) (by omega)]
  have h2 : (n : Nat) &&& 9223372036854775808 = 0 := by
    rw [show (9223372036854775808 : Nat) = 2 ^ 63 from rfl, nat_bit, Nat.div_eq_of_lt (by omega)]
  simp only [Int.toNat_natCast]
  rw [show (9223372036854775808 : Int).toNat = 9223372036854775808 from rfl, h2]
  rfl

theorem tmod_lo (d : Int) : -1000000000 < d.tmod 1000000000 := by
  have h := Int.tmod_lt_of_pos (-d) (b := 1000000000) (by omega)
  rw [Int.neg_tmod] at h; omega

set_option maxHeartbeats 400000 in
theorem add_any (d : Int) (w : World) :
    Calls Tryd.prog 15 #[.agg #[.int .u64 0, .int .i64 0, .pointer none], .int .i64 d] w fun e w' => ∃ x y, e = .returned (.agg #[.int .u64 x, .int .i64 y, .pointer none]) ∧ Below w.heap.size w w' := by
  have hq1 : d.tmod 1000000000 < 1000000000 := Int.tmod_lt_of_pos _ (by omega)
  have hq2 := tmod_lo d
  by_cases hn : d.tmod 1000000000 < 0
  · have hm := mono0 (d.tmod 1000000000 + 1000000000) (by omega) (by omega)
    go_enter Tryd.func15, Tryd.ntmps15
    go_wp2_with (first | (go_at_call 22; refine (nsec_any _ _ (by simp)).mono ?_; rintro e w' ⟨rfl, rfl⟩) | (go_at_call 23; refine (addSec_any _ _ _ _ (by simp) (by simp) (by simp) hm).mono ?_; rintro e w' ⟨rfl, y, rfl⟩))
    exact bodyPost_ret (v := .agg #[.int .u64 (bits BinOp.or IntKind.u64 (bits BinOp.andNot IntKind.u64 0 1073741823) (d.tmod 1000000000 + 1000000000)), .int .i64 y, .pointer none]) (by simp [results, Tryd.results15, go_sem]) rfl ⟨_, _, rfl, (((Below.refl _ _).alloc (Nat.le_refl _) _).alloc (by simp) _)⟩
  · have hm := mono0 (d.tmod 1000000000) (by omega) (by omega)
    go_enter Tryd.func15, Tryd.ntmps15
    go_wp2_with (first | (go_at_call 22; refine (nsec_any _ _ (by simp)).mono ?_; rintro e w' ⟨rfl, rfl⟩) | (go_at_call 23; refine (addSec_any _ _ _ _ (by simp) (by simp) (by simp) hm).mono ?_; rintro e w' ⟨rfl, y, rfl⟩))
    exact bodyPost_ret (v := .agg #[.int .u64 (bits BinOp.or IntKind.u64 (bits BinOp.andNot IntKind.u64 0 1073741823) (d.tmod 1000000000)), .int .i64 y, .pointer none]) (by simp [results, Tryd.results15, go_sem]) rfl ⟨_, _, rfl, (((Below.refl _ _).alloc (Nat.le_refl _) _).alloc (by simp) _)⟩


set_option maxHeartbeats 400000 in
theorem time_any (d : Int) (w : World) :
    Calls Tryd.prog 8 #[.int .i64 d] w fun e w' => ∃ x y, e = .returned (.agg #[.int .u64 x, .int .i64 y, .pointer none]) ∧ Below w.heap.size w w' := by
  go_enter Tryd.func8, Tryd.ntmps8
  go_wp2_with (go_at_call 15; refine (add_any _ _).mono ?_; rintro e w' ⟨x, y, rfl, hb⟩; obtain ⟨hc, hf⟩ := bcell hb; have hz : w.heap.size < w'.heap.size := by have := hb.size; simp at this; omega)
  refine bodyPost_ret (v := .agg #[.int .u64 x, .int .i64 y, .pointer none]) (by simp [results, Tryd.results8, go_sem, hc]) rfl ⟨x, y, rfl, ?_⟩
  exact (((((Below.refl _ _).alloc (Nat.le_refl _) _).trans (hb.mono (by simp))).setCell (Nat.le_refl _) _).setCell (Nat.le_refl _) _).setCell (Nat.le_refl _) _
end Go.Proofs.Qxb6609384aDoor
