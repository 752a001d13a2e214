/-
  The walk of 'FnSubjectTargetKeepsOrder': the comparison of two strings of bytes as a plain function ('cmpL'), the loop, the callees, the law.
-/
import Derived.Test.Qxb6609494aRows
import Derived.WalkKit
import Derived.ProofKit
import Derived.WalkSpells
import Derived.Deep.QuietTactic
import Derived.BigQuiet
namespace Go.Proofs.Qxb6609494a
open Go.RowKit

def cmpL : List UInt8 → List UInt8 → Int
  | [], [] => 0
  | [], _ :: _ => -1
  | _ :: _, [] => 1
  | x :: xs, y :: ys => if x.toNat < y.toNat then -1 else if y.toNat < x.toNat then 1 else cmpL xs ys
def cmp (a b : ByteArray) : Int := cmpL a.data.toList b.data.toList
def cmpAt (a b : ByteArray) (k : Nat) : Int := cmpL (a.data.toList.drop k) (b.data.toList.drop k)

theorem cmpL_prefix (p xs ys : List UInt8) : cmpL (p ++ xs) (p ++ ys) = cmpL xs ys := by
  induction p with
  | nil => rfl
  | cons x p ih => simp [cmpL, ih]
theorem cmp_prefix (p a b : ByteArray) : cmp (p ++ a) (p ++ b) = cmp a b := by
  unfold cmp
  rw [ByteArray.data_append, ByteArray.data_append, Array.toList_append, Array.toList_append, cmpL_prefix]
theorem cmpAt_zero (a b : ByteArray) : cmpAt a b 0 = cmp a b := rfl
theorem cmpAt_step (a b : ByteArray) (k : Nat) (ha : k < a.size) (hb : k < b.size) :
    cmpAt a b k = if a[k].toNat < b[k].toNat then -1 else if b[k].toNat < a[k].toNat then 1 else cmpAt a b (k + 1) := by
  have ha' : k < a.data.toList.length := by simpa using ha
  have hb' : k < b.data.toList.length := by simpa using hb
  unfold cmpAt
  rw [List.drop_eq_getElem_cons ha', List.drop_eq_getElem_cons hb', cmpL]
  rfl
theorem cmpL_nil (ys : List UInt8) : cmpL [] ys = if 0 < ys.length then -1 else 0 := by cases ys <;> simp [cmpL]
theorem cmpL_nil' (xs : List UInt8) : cmpL xs [] = if 0 < xs.length then 1 else 0 := by cases xs <;> simp [cmpL]
theorem cmpAt_end (a b : ByteArray) (k : Nat) (hk : a.size ≤ k ∨ b.size ≤ k) (h1 : k ≤ a.size) (h2 : k ≤ b.size) :
    cmpAt a b k = if a.size < b.size then -1 else if b.size < a.size then 1 else 0 := by
  have ea : a.data.toList.length = a.size := by simp
  have eb : b.data.toList.length = b.size := by simp
  unfold cmpAt
  rcases hk with hk | hk
  · rw [List.drop_eq_nil_of_le (by omega), cmpL_nil, List.length_drop, eb]
    have : ¬ b.size < a.size := by omega
    rw [if_neg this]
    by_cases h : a.size < b.size
    · rw [if_pos h, if_pos (by omega)]
    · rw [if_neg h, if_neg (by omega)]
  · rw [List.drop_eq_nil_of_le (show b.data.toList.length ≤ k by omega), cmpL_nil', List.length_drop, ea]
    have : ¬ a.size < b.size := by omega
    rw [if_neg this]
    by_cases h : b.size < a.size
    · rw [if_pos h, if_pos (by omega)]
    · rw [if_neg h, if_neg (by omega)]

theorem drew2 (w : World) (x y : Nat) : ∃ m, (w.drewN x).drewN y = w.drewN m := ⟨x + y, by simp⟩
theorem drew3 (w : World) (x y z : Nat) : ∃ m, ((w.drewN x).drewN y).drewN z = w.drewN m := ⟨x + y + z, by simp⟩
theorem ret_of {x y : Int} (h : x = y) : Ending.returned (Value.int .i64 y) = Ending.returned (Value.int .i64 x) := by rw [h]

theorem cmp_any (a b : ByteArray) (ha : a.size ≤ 1048600) (hb : b.size ≤ 1048600) (w : World) :
    Calls Try.prog 6 #[.string a, .string b] w fun e w' => e = .returned (.int .i64 (cmp a b)) ∧ ∃ m, w' = w.drewN m := by
  by_cases hn : b.size < a.size
  · go_enter Try.func6, Try.ntmps6
    go_wp2
    go_loopw [6] (fun t wr => ∃ k : Nat, k ≤ b.size ∧ t = .int .i64 k ∧ cmpAt a b k = cmp a b ∧ ∃ m, wr = w.drewN m) (fun t _ => b.size - (intOf t).toNat)
    case atStart => exact ⟨0, Nat.zero_le _, rfl, cmpAt_zero a b, 0, rfl⟩
    case round =>
      obtain ⟨k, hk, rfl, hz, dr, rfl⟩ := hrel
      have HZ : Hid (cmpAt a b k = cmp a b) := hz
      clear hz
      by_cases hlt : k < b.size
      · have hla : k < a.size := by omega
        have hlb : k < b.size := by omega
        have HS : Hid (cmpAt a b k = if a[k].toNat < b[k].toNat then -1 else if b[k].toNat < a[k].toNat then 1 else cmpAt a b (k + 1)) := cmpAt_step a b k hla hlb
        by_cases h1 : a[k].toNat < b[k].toNat
        · have H1 : Hid (cmp a b = -1) := by rw [← HZ.out, HS.out, if_pos h1]; rfl
          go_wp2
          go_quiet (fail)
          go_wp2
          go_ret
          exact ⟨ret_of H1.out, drew2 _ _ _⟩
        · by_cases h2 : b[k].toNat < a[k].toNat
          · have H1 : Hid (cmp a b = 1) := by rw [← HZ.out, HS.out, if_neg h1, if_pos h2]; rfl
            go_wp2
            go_quiet (fail)
            go_wp2
            go_quiet (fail)
            go_wp2
            go_ret
            exact ⟨ret_of H1.out, drew3 _ _ _ _⟩
          · have H1 : Hid (cmpAt a b (k + 1) = cmp a b) := by rw [← HZ.out, HS.out, if_neg h1, if_neg h2]; rfl
            go_wp2
            go_quiet (fail)
            go_wp2
            go_quiet (fail)
            go_wp2
            go_roundw
            case rel => exact ⟨k + 1, by omega, by go_num, H1.out, _, rfl⟩
            case measure => simp [intOf]; omega
      · have HE : Hid (cmpAt a b k = if a.size < b.size then -1 else if b.size < a.size then 1 else 0) := cmpAt_end a b k (by omega) (by omega) (by omega)
        by_cases h1 : a.size < b.size
        · have H1 : Hid (cmp a b = -1) := by rw [← HZ.out, HE.out, if_pos h1]; rfl
          go_wp2
          go_ret
          exact ⟨ret_of H1.out, _, rfl⟩
        · by_cases h2 : b.size < a.size
          · have H1 : Hid (cmp a b = 1) := by rw [← HZ.out, HE.out, if_neg h1, if_pos h2]; rfl
            go_wp2
            go_ret
            exact ⟨ret_of H1.out, _, rfl⟩
          · exact absurd hn h2
  · go_enter Try.func6, Try.ntmps6
    go_wp2
    go_loopw [6] (fun t wr => ∃ k : Nat, k ≤ a.size ∧ t = .int .i64 k ∧ cmpAt a b k = cmp a b ∧ ∃ m, wr = w.drewN m) (fun t _ => a.size - (intOf t).toNat)
    case atStart => exact ⟨0, Nat.zero_le _, rfl, cmpAt_zero a b, 0, rfl⟩
    case round =>
      obtain ⟨k, hk, rfl, hz, dr, rfl⟩ := hrel
      have HZ : Hid (cmpAt a b k = cmp a b) := hz
      clear hz
      by_cases hlt : k < a.size
      · have hla : k < a.size := by omega
        have hlb : k < b.size := by omega
        have HS : Hid (cmpAt a b k = if a[k].toNat < b[k].toNat then -1 else if b[k].toNat < a[k].toNat then 1 else cmpAt a b (k + 1)) := cmpAt_step a b k hla hlb
        by_cases h1 : a[k].toNat < b[k].toNat
        · have H1 : Hid (cmp a b = -1) := by rw [← HZ.out, HS.out, if_pos h1]; rfl
          go_wp2
          go_quiet (fail)
          go_wp2
          go_ret
          exact ⟨ret_of H1.out, drew2 _ _ _⟩
        · by_cases h2 : b[k].toNat < a[k].toNat
          · have H1 : Hid (cmp a b = 1) := by rw [← HZ.out, HS.out, if_neg h1, if_pos h2]; rfl
            go_wp2
            go_quiet (fail)
            go_wp2
            go_quiet (fail)
            go_wp2
            go_ret
            exact ⟨ret_of H1.out, drew3 _ _ _ _⟩
          · have H1 : Hid (cmpAt a b (k + 1) = cmp a b) := by rw [← HZ.out, HS.out, if_neg h1, if_neg h2]; rfl
            go_wp2
            go_quiet (fail)
            go_wp2
            go_quiet (fail)
            go_wp2
            go_roundw
            case rel => exact ⟨k + 1, by omega, by go_num, H1.out, _, rfl⟩
            case measure => simp [intOf]; omega
      · have HE : Hid (cmpAt a b k = if a.size < b.size then -1 else if b.size < a.size then 1 else 0) := cmpAt_end a b k (by omega) (by omega) (by omega)
        by_cases h1 : a.size < b.size
        · have H1 : Hid (cmp a b = -1) := by rw [← HZ.out, HE.out, if_pos h1]; rfl
          go_wp2
          go_ret
          exact ⟨ret_of H1.out, _, rfl⟩
        · by_cases h2 : b.size < a.size
          · exact absurd h2 hn
          · have H1 : Hid (cmp a b = 0) := by rw [← HZ.out, HE.out, if_neg h1, if_neg h2]; rfl
            go_wp2
            go_ret
            exact ⟨ret_of H1.out, _, rfl⟩

theorem zz_bytes (a b : ByteArray) (w : World) : Calls Try.prog 4 #[.string a, .string b] w fun e w' => (∃ r : Bool, e = .returned (.bool r)) ∧ w' = w := by
  go_enter Try.func4, Try.ntmps4
  go_wp2
  all_goals (go_ret; exact ⟨⟨_, rfl⟩, rfl⟩)
def sub : ByteArray := ⟨#[115, 117, 98, 106, 101, 99, 116, 58]⟩
theorem target (a : ByteArray) (ha : a.size ≤ 1048576) (w : World) : Calls Try.prog 5 #[.string a] w fun e w' => e = .returned (.string (sub ++ a)) ∧ w' = w := by
  go_enter Try.func5, Try.ntmps5
  go_wp2
  go_ret
  exact ⟨rfl, rfl⟩
end Go.Proofs.Qxb6609494a
