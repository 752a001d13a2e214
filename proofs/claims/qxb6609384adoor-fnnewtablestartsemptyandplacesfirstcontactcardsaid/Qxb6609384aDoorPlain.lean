import Derived.Test.Qxb6609384aDoorOf
namespace Go.Proofs.Qxb6609384aDoor

theorem dif_iff (A B : Nat → Nat) (i : Nat) : dif A B i ↔ (A (i / 8) ^^^ B (i / 8)) / 2 ^ (7 - i % 8) % 2 = 1 := by
  unfold dif
  have h := Nat.testBit_xor (A (i / 8)) (B (i / 8)) (7 - i % 8)
  simp only [Nat.testBit_eq_decide_div_mod_eq] at h
  have h1 : A (i / 8) / 2 ^ (7 - i % 8) % 2 < 2 := Nat.mod_lt _ (by omega)
  have h2 : B (i / 8) / 2 ^ (7 - i % 8) % 2 < 2 := Nat.mod_lt _ (by omega)
  generalize A (i / 8) / 2 ^ (7 - i % 8) % 2 = a at *
  generalize B (i / 8) / 2 ^ (7 - i % 8) % 2 = b at *
  generalize (A (i / 8) ^^^ B (i / 8)) / 2 ^ (7 - i % 8) % 2 = c at *
  rcases (show (a = 0 ∨ a = 1) by omega) with rfl | rfl <;> rcases (show (b = 0 ∨ b = 1) by omega) with rfl | rfl <;> simp at h <;> simp [h]

theorem not_dif_zero {A B : Nat → Nat} {i : Nat} (h : A (i / 8) ^^^ B (i / 8) = 0) : ¬ dif A B i := by
  rw [dif_iff, h]; simp

/-- Both ways of reckoning come to one number. -/
theorem first_lz {A B : Nat → Nat} {q : Nat} {r : Int} (hq : Lz (fun i => A i ^^^ B i) q) (hr : First A B r) : r = if q = 160 then -1 else (q : Int) := by
  rcases hq with ⟨i, hi, hz, L, hL, hL1, hL8, hlo, hhi⟩ | ⟨rfl, hz⟩
  · have hq8 : q / 8 = i := by omega
    have hqm : 7 - q % 8 = L - 1 := by omega
    have hd : dif A B q := by
      rw [dif_iff, hq8, hqm]
      have h2 : 2 ^ L = 2 ^ (L - 1) * 2 := by rw [← Nat.pow_succ]; congr 1; omega
      have h3 : (A i ^^^ B i) / 2 ^ (L - 1) = 1 := by
        apply Nat.div_eq_of_lt_le
        · simpa using hlo
        · simp only [] at hhi; rw [h2] at hhi; omega
      rw [h3]
    have hn : ∀ j, j < q → ¬ dif A B j := by
      intro j hj
      by_cases hji : j / 8 < i
      · exact not_dif_zero (hz _ hji)
      · have e : j / 8 = i := by omega
        rw [dif_iff, e]
        have hle : L ≤ 7 - j % 8 := by omega
        have hlt : A i ^^^ B i < 2 ^ (7 - j % 8) := Nat.lt_of_lt_of_le hhi (Nat.pow_le_pow_right (by omega) hle)
        rw [Nat.div_eq_of_lt hlt]; simp
    rw [if_neg (by omega)]
    rcases hr with ⟨k, hk, rfl, hk1, hk2⟩ | ⟨rfl, hall⟩
    · have : k = q := by
        rcases Nat.lt_trichotomy k q with h | h | h
        · exact absurd hk1 (hn k h)
        · exact h
        · exact absurd hd (hk2 q h)
      rw [this]
    · exact absurd hd (hall q (by omega))
  · rw [if_pos rfl]
    rcases hr with ⟨k, hk, rfl, hk1, hk2⟩ | ⟨rfl, hall⟩
    · exact absurd hk1 (not_dif_zero (hz _ (by omega)))
    · rfl
end Go.Proofs.Qxb6609384aDoor
