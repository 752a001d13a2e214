/-
  The law's own walk.
-/
import Derived.Test.Qxb6609494aWalks
namespace Go.Proofs.Qxb6609494a
open Go.RowKit

theorem walk_a (a b : ByteArray) (h : 524288 < a.size) (w : World) :
    Calls Try.prog 3 #[.string a, .string b] w fun e w' => e = .returned (.bool true) ∧ Grown w w' := by
  go_enter Try.func3, Try.ntmps3
  go_wp2_with (go_at_call 4; refine (zz_bytes _ _ _).mono ?_; rintro e w' ⟨⟨r, rfl⟩, hw⟩; have hw2 := hw.symm; subst hw2)
  all_goals (go_ret; exact ⟨rfl, Grown.refl _⟩)

theorem walk_b (a b : ByteArray) (ha : a.size ≤ 524288) (h : 524288 < b.size) (w : World) :
    Calls Try.prog 3 #[.string a, .string b] w fun e w' => e = .returned (.bool true) ∧ Grown w w' := by
  go_enter Try.func3, Try.ntmps3
  go_wp2_with (go_at_call 4; refine (zz_bytes _ _ _).mono ?_; rintro e w' ⟨⟨r, rfl⟩, hw⟩; have hw2 := hw.symm; subst hw2)
  all_goals (go_ret; exact ⟨rfl, Grown.refl _⟩)

theorem sub_size (a : ByteArray) : (sub ++ a).size = a.size + 8 := by
  rw [ByteArray.size_append, Nat.add_comm]; rfl

theorem walk_in (a b : ByteArray) (ha : a.size ≤ 524288) (hb : b.size ≤ 524288) (w : World) :
    Calls Try.prog 3 #[.string a, .string b] w fun e w' => e = .returned (.bool true) ∧ Grown w w' := by
  have HT : ∀ x : ByteArray, x.size ≤ 524288 → ∃ t : ByteArray, (t.size = x.size + 8 ∧ t = sub ++ x) ∧ ∀ w1, Calls Try.prog 5 #[.string x] w1 fun e w' => e = .returned (.string t) ∧ w' = w1 :=
    fun x hx => ⟨_, ⟨sub_size x, rfl⟩, fun w1 => target x (by omega) w1⟩
  obtain ⟨ta, ⟨sa, ea⟩, ca⟩ := HT a ha
  obtain ⟨tb, ⟨sb, eb⟩, cb⟩ := HT b hb
  have HC : Hid (cmp ta tb = cmp a b) := by rw [ea, eb]; exact cmp_prefix sub a b
  clear HT ea eb
  have CC : Hid (∀ w1, Calls Try.prog 6 #[.string ta, .string tb] w1 fun e w' => e = .returned (.int .i64 (cmp a b)) ∧ ∃ m, w' = w1.drewN m) := by
    rw [← HC.out]; exact cmp_any ta tb (by omega) (by omega)
  have CD : Hid (∀ w1, Calls Try.prog 6 #[.string a, .string b] w1 fun e w' => e = .returned (.int .i64 (cmp a b)) ∧ ∃ m, w' = w1.drewN m) := cmp_any a b (by omega) (by omega)
  have CA : Hid (∀ w1, Calls Try.prog 5 #[.string a] w1 fun e w' => e = .returned (.string ta) ∧ w' = w1) := ca
  have CB : Hid (∀ w1, Calls Try.prog 5 #[.string b] w1 fun e w' => e = .returned (.string tb) ∧ w' = w1) := cb
  clear ca cb HC
  have hsa : ((ta.size : Int) == (a.size : Int) + 8) = true := by simp; omega
  have hsb : ((tb.size : Int) == (b.size : Int) + 8) = true := by simp; omega
  clear sa sb
  generalize cmp a b = c at CC CD
  have tok5 : True := trivial
  have tok6 : True := trivial
  go_enter Try.func3, Try.ntmps3
  go_wp2_with (first
    | (go_at_call 4; refine (zz_bytes _ _ _).mono ?_; rintro e w' ⟨⟨r, rfl⟩, hw⟩; have hw2 := hw.symm; subst hw2)
    | (have _t := tok5; go_at_call 5; refine (CA.out _).mono ?_; rintro e w' ⟨rfl, hw⟩; have hw2 := hw.symm; subst hw2; clear _t tok5)
    | (go_at_call 5; refine (CB.out _).mono ?_; rintro e w' ⟨rfl, hw⟩; have hw2 := hw.symm; subst hw2)
    | (have _t := tok6; go_at_call 6; refine (CC.out _).mono ?_; rintro e w' ⟨rfl, m, hw⟩; subst hw; clear _t tok6)
    | (go_at_call 6; refine (CD.out _).mono ?_; rintro e w' ⟨rfl, m, hw⟩; subst hw))
  all_goals (go_ret; exact ⟨rfl, Grown.refl _⟩)
end Go.Proofs.Qxb6609494a
