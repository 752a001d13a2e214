import Derived.Test.Qxb6609384aDoorTime
namespace Go.Proofs.Qxb6609384aDoor
open Go.RowKit
set_option linter.unusedSimpArgs false

/-- Len8's table. -/
def lenTab : ByteArray := ⟨#[0, 1, 2, 2, 3, 3, 3, 3, 4, 4, 4, 4, 4, 4, 4, 4, 5, 5, 5, 5, 5, 5, 5, 5, 5, 5, 5, 5, 5, 5, 5, 5, 6, 6, 6, 6, 6, 6, 6, 6, 6, 6, 6, 6, 6, 6, 6, 6, 6, 6, 6, 6, 6, 6, 6, 6, 6, 6, 6, 6, 6, 6, 6, 6, 7, 7, 7, 7, 7, 7, 7, 7, 7, 7, 7, 7, 7, 7, 7, 7, 7, 7, 7, 7, 7, 7, 7, 7, 7, 7, 7, 7, 7, 7, 7, 7, 7, 7, 7, 7, 7, 7, 7, 7, 7, 7, 7, 7, 7, 7, 7, 7, 7, 7, 7, 7, 7, 7, 7, 7, 7, 7, 7, 7, 7, 7, 7, 7, 8, 8, 8, 8, 8, 8, 8, 8, 8, 8, 8, 8, 8, 8, 8, 8, 8, 8, 8, 8, 8, 8, 8, 8, 8, 8, 8, 8, 8, 8, 8, 8, 8, 8, 8, 8, 8, 8, 8, 8, 8, 8, 8, 8, 8, 8, 8, 8, 8, 8, 8, 8, 8, 8, 8, 8, 8, 8, 8, 8, 8, 8, 8, 8, 8, 8, 8, 8, 8, 8, 8, 8, 8, 8, 8, 8, 8, 8, 8, 8, 8, 8, 8, 8, 8, 8, 8, 8, 8, 8, 8, 8, 8, 8, 8, 8, 8, 8, 8, 8, 8, 8, 8, 8, 8, 8, 8, 8, 8, 8, 8, 8, 8, 8, 8, 8, 8, 8, 8, 8, 8, 8, 8, 8, 8, 8, 8, 8]⟩
theorem lenTab_size : lenTab.size = 256 := by decide +kernel
theorem lenTab_all : ∀ i : Fin 256, (lenTab.data.getD i.val 0).toNat ≤ 8 ∧ i.val < 2 ^ (lenTab.data.getD i.val 0).toNat ∧ (i.val = 0 ∨ (1 ≤ (lenTab.data.getD i.val 0).toNat ∧ 2 ^ ((lenTab.data.getD i.val 0).toNat - 1) ≤ i.val)) := by decide +kernel

theorem getD_byte (b : ByteArray) (n : Nat) (h : n < b.size) : b.data.getD n 0 = b[n]'h := by
  have h' : n < b.data.size := h
  show b.data.getD n 0 = b.data[n]'h'
  simp [Array.getD, h]
theorem ret_wrap (a : Int) (h0 : 0 ≤ a) (h1 : a ≤ 1000) : Ending.returned (.int .i64 (wrap64 a)) = .returned (.int .i64 a) := by
  have h : wrap64 a = a := by unfold wrap64; omega
  rw [h]

set_option maxRecDepth 100000 in
theorem len8_any (n : Nat) (hn : n < 256) (w : World) :
    Calls Tryd.prog 40 #[.int .u8 n] w fun e w' => (∃ L : Nat, e = .returned (.int .i64 L) ∧ L ≤ 8 ∧ n < 2 ^ L ∧ (n = 0 ∨ (1 ≤ L ∧ 2 ^ (L - 1) ≤ n))) ∧ w' = w := by
  have hs : n < lenTab.size := by rw [lenTab_size]; exact hn
  have hk := lenTab_all ⟨n, hn⟩
  have hg := getD_byte lenTab n hs
  simp only [hg] at hk
  have HK : Hid _ := hk
  clear hk hg
  go_enter Tryd.func40, Tryd.ntmps40
  go_wp2
  go_ret
  exact ⟨⟨(lenTab[n]'hs).toNat, ret_wrap ((lenTab[n]'hs).toNat : Int) (by omega) (by have := HK.out.1; omega), HK.out⟩, rfl⟩

theorem lead8_any (n : Nat) (hn : n < 256) (w : World) :
    Calls Tryd.prog 36 #[.int .u8 n] w fun e w' => (∃ L : Nat, e = .returned (.int .i64 (8 - (L : Int))) ∧ L ≤ 8 ∧ n < 2 ^ L ∧ (n = 0 ∨ (1 ≤ L ∧ 2 ^ (L - 1) ≤ n))) ∧ w' = w := by
  go_enter Tryd.func36, Tryd.ntmps36
  go_wp2_with (go_at_call 40; refine (len8_any n hn _).mono ?_; rintro e w' ⟨⟨L, rfl, h1, h2, h3⟩, rfl⟩; have H2 : Hid _ := h2; have H3 : Hid _ := h3; clear h2 h3)
  go_ret
  exact ⟨⟨L, rfl, by omega, H2.out, H3.out⟩, rfl⟩
end Go.Proofs.Qxb6609384aDoor
