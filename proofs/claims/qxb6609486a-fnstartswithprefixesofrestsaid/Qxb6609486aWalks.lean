/-
  The walk of 'FnStartsWithPrefixesOfRest': her callees, then herself. 'pre s p': does the string s begin with p.
-/
import Derived.Test.Qxb6609486aRows
import Derived.WalkKit
import Derived.ProofKit
import Derived.WalkSpells
import Derived.Deep.QuietTactic
import Derived.BigQuiet
namespace Go.Proofs.Qxb6609486a
open Go.RowKit

def pre (s p : ByteArray) : Bool := decide (p.size ≤ s.size) && ((s.extract 0 p.size).toList == p.toList)

theorem zz_bytes (s : ByteArray) (x y : Int) (h : s.size ≤ 1048576) (w : World) : Calls Try.prog 7 #[.string s, .int .i64 x, .int .i64 y] w fun e w' => e = .returned (.bool true) ∧ w' = w := by
  go_enter Try.func7, Try.ntmps7
  go_wp2
  go_ret
  exact ⟨rfl, rfl⟩
theorem zz_bytes_long (s : ByteArray) (x y : Int) (h : 1048576 < s.size) (w : World) : Calls Try.prog 7 #[.string s, .int .i64 x, .int .i64 y] w fun e w' => e = .returned (.bool false) ∧ w' = w := by
  go_enter Try.func7, Try.ntmps7
  go_wp2
  go_ret
  exact ⟨rfl, rfl⟩

theorem lite (s p : ByteArray) (w : World) : Calls Try.prog 14 #[.string s, .string p] w fun e w' => e = .returned (.bool (pre s p)) ∧ w' = w := by
  by_cases h : p.size ≤ s.size
  · go_enter Try.func14, Try.ntmps14
    go_wp2
    go_ret
    exact ⟨by simp [pre, h], rfl⟩
  · go_enter Try.func14, Try.ntmps14
    go_wp2
    go_ret
    exact ⟨by simp [pre, h], rfl⟩
theorem hasPrefix (s p : ByteArray) (w : World) : Calls Try.prog 13 #[.string s, .string p] w fun e w' => e = .returned (.bool (pre s p)) ∧ w' = w := by
  go_enter Try.func13, Try.ntmps13
  go_wp2_with (go_at_call 14; refine (lite _ _ _).mono ?_; rintro e w' ⟨rfl, rfl⟩)
  go_ret
  exact ⟨rfl, rfl⟩

theorem newScanner (src : ByteArray) (off : Int) (w : World) : Calls Try.prog 8 #[.string src, .int .i64 off] w fun e w' => e = .returned (.pointer (some ⟨w.heap.size, 0, none⟩)) ∧ Grown w w' ∧
    w'.cell? ⟨w.heap.size, 1, none⟩ = some (.string src) ∧ w'.cell? ⟨w.heap.size, 2, none⟩ = some (.int .i64 off) := by
  go_enter Try.func8, Try.ntmps8
  go_wp2
  go_ret
  exact ⟨rfl, (Grown.refl _).alloc _ _, by simp, by simp⟩

theorem starts (src : ByteArray) (off b : Nat) (hoff : off ≤ src.size) (p : ByteArray) (w : World) (h1 : w.cell? ⟨b, 1, none⟩ = some (.string src)) (h2 : w.cell? ⟨b, 2, none⟩ = some (.int .i64 off)) :
   Calls Try.prog 12 #[.pointer (some ⟨b, 0, none⟩), .string p] w fun e w' => e = .returned (.bool (pre (src.extract off src.size) p)) ∧ ∃ m, w' = w.drewN m := by
  go_enter Try.func12, Try.ntmps12
  go_wp2
  go_quiet ((go_at_call 13; exact Calls.quiet_of_same (hasPrefix _ _ _)))
  go_wp2
  go_ret
  exact ⟨rfl, _, rfl⟩
theorem zzStarts (src : ByteArray) (off b : Nat) (hoff : off ≤ src.size) (p : ByteArray) (w : World) (h1 : w.cell? ⟨b, 1, none⟩ = some (.string src)) (h2 : w.cell? ⟨b, 2, none⟩ = some (.int .i64 off)) :
   Calls Try.prog 9 #[.pointer (some ⟨b, 0, none⟩), .string p] w fun e w' => e = .returned (.bool (pre (src.extract off src.size) p)) ∧ ∃ m, w' = w.drewN m := by
  go_enter Try.func9, Try.ntmps9
  go_wp2_with (go_at_call 12; refine (starts _ _ _ hoff _ _ h1 h2).mono ?_; rintro e w' ⟨rfl, m, rfl⟩)
  go_ret
  exact ⟨rfl, _, rfl⟩
end Go.Proofs.Qxb6609486a
