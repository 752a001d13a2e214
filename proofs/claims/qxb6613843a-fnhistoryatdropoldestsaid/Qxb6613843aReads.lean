import Derived.Test.Qxb6613843aRows
import Derived.WalkKit
import Derived.WalkSpells
import Derived.Deep.QuietTactic
import Derived.BigQuiet
namespace Go.Proofs.Qxb6613843a
open Go.RowKit

theorem wrap_any (i n : Int) (hn0 : 0 ≤ n) (hi0 : 0 ≤ i) (hi : i ≤ 1000000) (hn : n ≤ 1000000) (w : World) :
    Calls Try.prog 12 #[.int .i64 i, .int .i64 n] w fun e w' => e = .returned (.int .i64 (if n ≤ i then i - n else i)) ∧ w' = w := by
  by_cases h : n ≤ i
  · rw [if_pos h]
    go_enter Try.func12, Try.ntmps12
    go_wp2
    go_ret
    exact ⟨rfl, rfl⟩
  · rw [if_neg h]
    go_enter Try.func12, Try.ntmps12
    go_wp2
    go_ret
    exact ⟨rfl, rfl⟩

theorem bytes_any (a0 a1 a2 a3 : Option Addr) (n0 n1 n2 n3 c0 c1 c2 c3 : Nat) (x y : Int) (w : World) :
    Calls Try.prog 5 #[.slice a0 n0 c0, .slice a1 n1 c1, .slice a2 n2 c2, .slice a3 n3 c3, .int .i64 x, .int .i64 y] w fun e w' => (∃ b, e = .returned (.bool b)) ∧ w' = w := by
  go_enter Try.func5, Try.ntmps5
  go_wp2
  all_goals (go_ret; exact ⟨⟨_, rfl⟩, rfl⟩)

theorem entry_any (hb eb len : Nat) (k : Nat) (hk : k < len) (w : World) (h3 : w.cell? ⟨hb, 3, none⟩ = some (.slice (some ⟨eb, 0, none⟩) len len)) :
    Calls Try.prog 9 #[.pointer (some ⟨hb, 0, none⟩), .int .i64 k] w fun e w' => e = .returned (.pointer (some ⟨eb, k * 4, none⟩)) ∧ w' = w := by
  go_enter Try.func9, Try.ntmps9
  go_wp2
  go_ret
  exact ⟨rfl, rfl⟩

/-- The slot of line i of a ring of len slots that begins at f. -/
def slot (f i len : Nat) : Nat := if len ≤ f + i then f + i - len else f + i
theorem slot_lt {f i len : Nat} (hf : f < len) (hi : i ≤ len) : slot f i len < len := by unfold slot; split <;> omega

theorem at_any (hb eb len f i : Nat) (hf : f < len) (hi : i ≤ len) (hl : len ≤ 65536) (w : World) (h3 : w.cell? ⟨hb, 3, none⟩ = some (.slice (some ⟨eb, 0, none⟩) len len)) (h4 : w.cell? ⟨hb, 4, none⟩ = some (.int .i64 f)) :
    Calls Try.prog 11 #[.pointer (some ⟨hb, 0, none⟩), .int .i64 i] w fun e w' => e = .returned (.pointer (some ⟨eb, slot f i len * 4, none⟩)) ∧ ∃ m, w' = w.drewN m := by
  have hs := slot_lt hf hi
  have hw : ∀ w1, Calls Try.prog 12 #[.int .i64 ((f : Int) + i), .int .i64 len] w1 fun e w' => e = .returned (.int .i64 (slot f i len)) ∧ w' = w1 := by
    intro w1
    have h := wrap_any ((f : Int) + i) len (by omega) (by omega) (by omega) (by omega) w1
    have e : (if (len : Int) ≤ (f : Int) + i then (f : Int) + i - len else (f : Int) + i) = ((slot f i len : Nat) : Int) := by
      unfold slot; split <;> split <;> omega
    rwa [e] at h
  obtain ⟨s, hs0⟩ : ∃ s, s = slot f i len := ⟨_, rfl⟩
  rw [← hs0] at hs hw ⊢
  clear hs0
  have hs' : (s : Int) < (len : Int) := by omega
  go_enter Try.func11, Try.ntmps11
  go_wp2
  go_quiet ((go_at_call 12; exact Calls.quiet_of_same (hw _)))
  go_wp2
  go_ret
  exact ⟨rfl, _, rfl⟩

theorem hat_any (hb eb len f i : Nat) (hf : f < len) (hi : i ≤ len) (hl : len ≤ 65536) (w : World) (h3 : w.cell? ⟨hb, 3, none⟩ = some (.slice (some ⟨eb, 0, none⟩) len len)) (h4 : w.cell? ⟨hb, 4, none⟩ = some (.int .i64 f)) :
    Calls Try.prog 8 #[.pointer (some ⟨hb, 0, none⟩), .int .i64 i] w fun e w' => e = .returned (.pointer (some ⟨eb, slot f i len * 4, none⟩)) ∧ ∃ m, w' = w.drewN m := by
  go_enter Try.func8, Try.ntmps8
  go_wp2_with (go_at_call 11; refine (at_any hb eb len f i hf hi hl _ h3 h4).mono ?_; rintro e w' ⟨rfl, m, rfl⟩)
  go_ret
  exact ⟨rfl, _, rfl⟩
end Go.Proofs.Qxb6613843a
