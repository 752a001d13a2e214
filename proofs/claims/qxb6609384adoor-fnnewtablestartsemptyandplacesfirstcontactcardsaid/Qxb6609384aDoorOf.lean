import Derived.Test.Qxb6609384aDoorDist
import Derived.Deep.QuietTactic
import Derived.BigQuiet
import Derived.WalkSmall
namespace Go.Proofs.Qxb6609384aDoor
open Go.RowKit
set_option linter.unusedSimpArgs false

/-- The two IDs differ in bit i. -/
def dif (A B : Nat → Nat) (i : Nat) : Prop := A (i / 8) / 2 ^ (7 - i % 8) % 2 ≠ B (i / 8) / 2 ^ (7 - i % 8) % 2
/-- r is the first bit in which they differ, or -1. -/
def First (A B : Nat → Nat) (r : Int) : Prop := (∃ i : Nat, i < 160 ∧ r = (i : Int) ∧ dif A B i ∧ ∀ j, j < i → ¬ dif A B j) ∨ (r = -1 ∧ ∀ j, j < 160 → ¬ dif A B j)

theorem bit_of (a d : Nat) (ha : a < 256) (_hd : 0 < d) : bits BinOp.and IntKind.u8 ((a : Int) / (d : Int)) 1 = ((a / d % 2 : Nat) : Int) := by
  have h : a / d < 256 := Nat.lt_of_le_of_lt (Nat.div_le_self a d) ha
  have e : (a : Int) / (d : Int) = ((a / d : Nat) : Int) := rfl
  have h2 := u8_and_nat (a / d) 1 h (by omega)
  rw [e]
  rw [nat_mask1] at h2
  exact h2
theorem test_true {A B : Nat → Nat} (hA : ∀ i, A i < 256) (hB : ∀ i, B i < 256) {k m d : Nat} (hm : m = k / 8) (hd : d = 2 ^ (7 - k % 8)) (h : dif A B k) : (bits BinOp.and IntKind.u8 ((A m : Int) / (d : Int)) 1 != bits BinOp.and IntKind.u8 ((B m : Int) / (d : Int)) 1) = true := by
  have hp : 0 < d := by rw [hd]; exact Nat.two_pow_pos _
  rw [bit_of _ _ (hA m) hp, bit_of _ _ (hB m) hp]
  unfold dif at h
  rw [← hm, ← hd] at h
  simpa using fun e => h (by omega)
theorem test_false {A B : Nat → Nat} (hA : ∀ i, A i < 256) (hB : ∀ i, B i < 256) {k m d : Nat} (hm : m = k / 8) (hd : d = 2 ^ (7 - k % 8)) (h : ¬ dif A B k) : (bits BinOp.and IntKind.u8 ((A m : Int) / (d : Int)) 1 != bits BinOp.and IntKind.u8 ((B m : Int) / (d : Int)) 1) = false := by
  have hp : 0 < d := by rw [hd]; exact Nat.two_pow_pos _
  rw [bit_of _ _ (hA m) hp, bit_of _ _ (hB m) hp]
  unfold dif at h
  rw [← hm, ← hd] at h
  have h' := Decidable.of_not_not h
  simp [h']

theorem world2 (w : World) (f g : Nat → Int) : (∀ m, m < 20 → ((w.alloc (.cells (idA f) 22)).alloc (.cells (idA g) 22)).cell? ⟨w.heap.size, m, none⟩ = some (.int .u8 (f m))) ∧ (∀ m, m < 20 → ((w.alloc (.cells (idA f) 22)).alloc (.cells (idA g) 22)).cell? ⟨w.heap.size + 1, m, none⟩ = some (.int .u8 (g m))) ∧
    Below w.heap.size w ((w.alloc (.cells (idA f) 22)).alloc (.cells (idA g) 22)) := by
  refine ⟨fun k hk => ?_, fun k hk => ?_, ((Below.refl _ _).alloc (Nat.le_refl _) _).alloc (by simp) _⟩
  · rw [World.cell?_alloc_lt _ _ _ (by simp), World.cell?_alloc_at _ _ _ _ rfl]
    exact idA_get f k hk
  · rw [World.cell?_alloc_at _ _ _ _ (by simp)]
    exact idA_get g k hk

set_option maxRecDepth 100000 in
set_option maxHeartbeats 1600000 in
theorem of_any (A B : Nat → Nat) (hA : ∀ i, A i < 256) (hB : ∀ i, B i < 256) (w : World) :
    Calls Tryd.prog 9 #[.agg (idA fun i => (A i : Int)), .agg (idA fun i => (B i : Int))] w fun e w' => ∃ r, e = .returned (.int .i64 r) ∧ First A B r ∧ Below w.heap.size w w' := by
  have H1 : Hid (∀ i, A i < 256) := hA
  have H2 : Hid (∀ i, B i < 256) := hB
  clear hA hB
  go_enter Tryd.func9, Tryd.ntmps9
  go_wp2
  obtain ⟨hcA, hcB, hbW⟩ := world2 w (fun i => (A i : Int)) (fun i => (B i : Int))
  generalize ((w.alloc (.cells (idA fun i => (A i : Int)) 22)).alloc (.cells (idA fun i => (B i : Int)) 22)) = W at hcA hcB hbW ⊢
  generalize hn : w.heap.size = n at hcA hcB hbW ⊢
  have HA : Hid (∀ m, m < 20 → W.cell? ⟨n, m, none⟩ = some (.int .u8 (A m : Int))) := hcA
  have HB : Hid (∀ m, m < 20 → W.cell? ⟨n + 1, m, none⟩ = some (.int .u8 (B m : Int))) := hcB
  have HW : Hid (Below n w W) := hbW
  have HN : Hid (w.heap.size = n) := hn
  clear hcA hcB hbW hn
  go_loopw [5] (fun t wr => ∃ k : Nat, k ≤ 160 ∧ t = .int .i64 k ∧ (∀ j, j < k → ¬ dif A B j) ∧ ∃ m, wr = W.drewN m) (fun t _ => 160 - (intOf t).toNat)
  case atStart => exact ⟨0, Nat.zero_le _, rfl, fun j hj => absurd hj (Nat.not_lt_zero _), 0, rfl⟩
  case round =>
    obtain ⟨k, hk, rfl, hz, dr, rfl⟩ := hrel
    have HZ : Hid (∀ j, j < k → ¬ dif A B j) := hz
    clear hz
    by_cases hlt : k < 160
    · obtain ⟨m, hm⟩ : ∃ m, m = k / 8 := ⟨_, rfl⟩
      have hm20 : m < 20 := by omega
      have cA := HA.out m hm20
      have cB := HB.out m hm20
      have hd : (k : Int) / 8 = (m : Int) := by omega
      have hlt' : (k : Int) < 160 := by omega
      have hmi : (m : Int) < 20 := by omega
      have HM : Hid (m = k / 8) := hm
      clear hm
      rcases (show k % 8 = 0 ∨ k % 8 = 1 ∨ k % 8 = 2 ∨ k % 8 = 3 ∨ k % 8 = 4 ∨ k % 8 = 5 ∨ k % 8 = 6 ∨ k % 8 = 7 by omega) with h8 | h8 | h8 | h8 | h8 | h8 | h8 | h8
      · have hr : (k : Int) % 8 = 0 := by omega
        have hp : (128 : Nat) = 2 ^ (7 - k % 8) := by rw [h8]
        clear h8
        by_cases hdf : dif A B k
        · have ht : (bits BinOp.and IntKind.u8 ((A m : Int) / 128) 1 != bits BinOp.and IntKind.u8 ((B m : Int) / 128) 1) = true := by have ht := test_true H1.out H2.out HM.out hp hdf; simpa using ht
          have HD : Hid (dif A B k) := hdf
          clear hdf hp
          go_wp2
          go_quiet (fail)
          go_wp2
          go_ret
          exact ⟨k, rfl, .inl ⟨k, hlt, rfl, HD.out, HZ.out⟩, HN.out ▸ below_drewN (below_drewN HW.out _) _⟩
        · have ht : (bits BinOp.and IntKind.u8 ((A m : Int) / 128) 1 != bits BinOp.and IntKind.u8 ((B m : Int) / 128) 1) = false := by have ht := test_false H1.out H2.out HM.out hp hdf; simpa using ht
          have HD : Hid (¬ dif A B k) := hdf
          clear hdf hp
          go_wp2
          go_quiet (fail)
          go_wp2
          go_roundw
          case rel => exact ⟨k + 1, by omega, by go_num, fun j hj => (Nat.lt_succ_iff_lt_or_eq.1 hj).elim (HZ.out j) (fun e => e ▸ HD.out), _, rfl⟩
          case measure => simp [intOf]; omega
      · have hr : (k : Int) % 8 = 1 := by omega
        have hp : (64 : Nat) = 2 ^ (7 - k % 8) := by rw [h8]
        clear h8
        by_cases hdf : dif A B k
        · have ht : (bits BinOp.and IntKind.u8 ((A m : Int) / 64) 1 != bits BinOp.and IntKind.u8 ((B m : Int) / 64) 1) = true := by have ht := test_true H1.out H2.out HM.out hp hdf; simpa using ht
          have HD : Hid (dif A B k) := hdf
          clear hdf hp
          go_wp2
          go_quiet (fail)
          go_wp2
          go_ret
          exact ⟨k, rfl, .inl ⟨k, hlt, rfl, HD.out, HZ.out⟩, HN.out ▸ below_drewN (below_drewN HW.out _) _⟩
        · have ht : (bits BinOp.and IntKind.u8 ((A m : Int) / 64) 1 != bits BinOp.and IntKind.u8 ((B m : Int) / 64) 1) = false := by have ht := test_false H1.out H2.out HM.out hp hdf; simpa using ht
          have HD : Hid (¬ dif A B k) := hdf
          clear hdf hp
          go_wp2
          go_quiet (fail)
          go_wp2
          go_roundw
          case rel => exact ⟨k + 1, by omega, by go_num, fun j hj => (Nat.lt_succ_iff_lt_or_eq.1 hj).elim (HZ.out j) (fun e => e ▸ HD.out), _, rfl⟩
          case measure => simp [intOf]; omega
      · have hr : (k : Int) % 8 = 2 := by omega
        have hp : (32 : Nat) = 2 ^ (7 - k % 8) := by rw [h8]
        clear h8
        by_cases hdf : dif A B k
        · have ht : (bits BinOp.and IntKind.u8 ((A m : Int) / 32) 1 != bits BinOp.and IntKind.u8 ((B m : Int) / 32) 1) = true := by have ht := test_true H1.out H2.out HM.out hp hdf; simpa using ht
          have HD : Hid (dif A B k) := hdf
          clear hdf hp
          go_wp2
          go_quiet (fail)
          go_wp2
          go_ret
          exact ⟨k, rfl, .inl ⟨k, hlt, rfl, HD.out, HZ.out⟩, HN.out ▸ below_drewN (below_drewN HW.out _) _⟩
        · have ht : (bits BinOp.and IntKind.u8 ((A m : Int) / 32) 1 != bits BinOp.and IntKind.u8 ((B m : Int) / 32) 1) = false := by have ht := test_false H1.out H2.out HM.out hp hdf; simpa using ht
          have HD : Hid (¬ dif A B k) := hdf
          clear hdf hp
          go_wp2
          go_quiet (fail)
          go_wp2
          go_roundw
          case rel => exact ⟨k + 1, by omega, by go_num, fun j hj => (Nat.lt_succ_iff_lt_or_eq.1 hj).elim (HZ.out j) (fun e => e ▸ HD.out), _, rfl⟩
          case measure => simp [intOf]; omega
      · have hr : (k : Int) % 8 = 3 := by omega
        have hp : (16 : Nat) = 2 ^ (7 - k % 8) := by rw [h8]
        clear h8
        by_cases hdf : dif A B k
        · have ht : (bits BinOp.and IntKind.u8 ((A m : Int) / 16) 1 != bits BinOp.and IntKind.u8 ((B m : Int) / 16) 1) = true := by have ht := test_true H1.out H2.out HM.out hp hdf; simpa using ht
          have HD : Hid (dif A B k) := hdf
          clear hdf hp
          go_wp2
          go_quiet (fail)
          go_wp2
          go_ret
          exact ⟨k, rfl, .inl ⟨k, hlt, rfl, HD.out, HZ.out⟩, HN.out ▸ below_drewN (below_drewN HW.out _) _⟩
        · have ht : (bits BinOp.and IntKind.u8 ((A m : Int) / 16) 1 != bits BinOp.and IntKind.u8 ((B m : Int) / 16) 1) = false := by have ht := test_false H1.out H2.out HM.out hp hdf; simpa using ht
          have HD : Hid (¬ dif A B k) := hdf
          clear hdf hp
          go_wp2
          go_quiet (fail)
          go_wp2
          go_roundw
          case rel => exact ⟨k + 1, by omega, by go_num, fun j hj => (Nat.lt_succ_iff_lt_or_eq.1 hj).elim (HZ.out j) (fun e => e ▸ HD.out), _, rfl⟩
          case measure => simp [intOf]; omega
      · have hr : (k : Int) % 8 = 4 := by omega
        have hp : (8 : Nat) = 2 ^ (7 - k % 8) := by rw [h8]
        clear h8
        by_cases hdf : dif A B k
        · have ht : (bits BinOp.and IntKind.u8 ((A m : Int) / 8) 1 != bits BinOp.and IntKind.u8 ((B m : Int) / 8) 1) = true := by have ht := test_true H1.out H2.out HM.out hp hdf; simpa using ht
          have HD : Hid (dif A B k) := hdf
          clear hdf hp
          go_wp2
          go_quiet (fail)
          go_wp2
          go_ret
          exact ⟨k, rfl, .inl ⟨k, hlt, rfl, HD.out, HZ.out⟩, HN.out ▸ below_drewN (below_drewN HW.out _) _⟩
        · have ht : (bits BinOp.and IntKind.u8 ((A m : Int) / 8) 1 != bits BinOp.and IntKind.u8 ((B m : Int) / 8) 1) = false := by have ht := test_false H1.out H2.out HM.out hp hdf; simpa using ht
          have HD : Hid (¬ dif A B k) := hdf
          clear hdf hp
          go_wp2
          go_quiet (fail)
          go_wp2
          go_roundw
          case rel => exact ⟨k + 1, by omega, by go_num, fun j hj => (Nat.lt_succ_iff_lt_or_eq.1 hj).elim (HZ.out j) (fun e => e ▸ HD.out), _, rfl⟩
          case measure => simp [intOf]; omega
      · have hr : (k : Int) % 8 = 5 := by omega
        have hp : (4 : Nat) = 2 ^ (7 - k % 8) := by rw [h8]
        clear h8
        by_cases hdf : dif A B k
        · have ht : (bits BinOp.and IntKind.u8 ((A m : Int) / 4) 1 != bits BinOp.and IntKind.u8 ((B m : Int) / 4) 1) = true := by have ht := test_true H1.out H2.out HM.out hp hdf; simpa using ht
          have HD : Hid (dif A B k) := hdf
          clear hdf hp
          go_wp2
          go_quiet (fail)
          go_wp2
          go_ret
          exact ⟨k, rfl, .inl ⟨k, hlt, rfl, HD.out, HZ.out⟩, HN.out ▸ below_drewN (below_drewN HW.out _) _⟩
        · have ht : (bits BinOp.and IntKind.u8 ((A m : Int) / 4) 1 != bits BinOp.and IntKind.u8 ((B m : Int) / 4) 1) = false := by have ht := test_false H1.out H2.out HM.out hp hdf; simpa using ht
          have HD : Hid (¬ dif A B k) := hdf
          clear hdf hp
          go_wp2
          go_quiet (fail)
          go_wp2
          go_roundw
          case rel => exact ⟨k + 1, by omega, by go_num, fun j hj => (Nat.lt_succ_iff_lt_or_eq.1 hj).elim (HZ.out j) (fun e => e ▸ HD.out), _, rfl⟩
          case measure => simp [intOf]; omega
      · have hr : (k : Int) % 8 = 6 := by omega
        have hp : (2 : Nat) = 2 ^ (7 - k % 8) := by rw [h8]
        clear h8
        by_cases hdf : dif A B k
        · have ht : (bits BinOp.and IntKind.u8 ((A m : Int) / 2) 1 != bits BinOp.and IntKind.u8 ((B m : Int) / 2) 1) = true := by have ht := test_true H1.out H2.out HM.out hp hdf; simpa using ht
          have HD : Hid (dif A B k) := hdf
          clear hdf hp
          go_wp2
          go_quiet (fail)
          go_wp2
          go_ret
          exact ⟨k, rfl, .inl ⟨k, hlt, rfl, HD.out, HZ.out⟩, HN.out ▸ below_drewN (below_drewN HW.out _) _⟩
        · have ht : (bits BinOp.and IntKind.u8 ((A m : Int) / 2) 1 != bits BinOp.and IntKind.u8 ((B m : Int) / 2) 1) = false := by have ht := test_false H1.out H2.out HM.out hp hdf; simpa using ht
          have HD : Hid (¬ dif A B k) := hdf
          clear hdf hp
          go_wp2
          go_quiet (fail)
          go_wp2
          go_roundw
          case rel => exact ⟨k + 1, by omega, by go_num, fun j hj => (Nat.lt_succ_iff_lt_or_eq.1 hj).elim (HZ.out j) (fun e => e ▸ HD.out), _, rfl⟩
          case measure => simp [intOf]; omega
      · have hr : (k : Int) % 8 = 7 := by omega
        have hp : (1 : Nat) = 2 ^ (7 - k % 8) := by rw [h8]
        clear h8
        by_cases hdf : dif A B k
        · have ht : (bits BinOp.and IntKind.u8 (A m : Int) 1 != bits BinOp.and IntKind.u8 (B m : Int) 1) = true := by have ht := test_true H1.out H2.out HM.out hp hdf; simpa using ht
          have HD : Hid (dif A B k) := hdf
          clear hdf hp
          go_wp2
          go_quiet (fail)
          go_wp2
          go_ret
          exact ⟨k, rfl, .inl ⟨k, hlt, rfl, HD.out, HZ.out⟩, HN.out ▸ below_drewN (below_drewN HW.out _) _⟩
        · have ht : (bits BinOp.and IntKind.u8 (A m : Int) 1 != bits BinOp.and IntKind.u8 (B m : Int) 1) = false := by have ht := test_false H1.out H2.out HM.out hp hdf; simpa using ht
          have HD : Hid (¬ dif A B k) := hdf
          clear hdf hp
          go_wp2
          go_quiet (fail)
          go_wp2
          go_roundw
          case rel => exact ⟨k + 1, by omega, by go_num, fun j hj => (Nat.lt_succ_iff_lt_or_eq.1 hj).elim (HZ.out j) (fun e => e ▸ HD.out), _, rfl⟩
          case measure => simp [intOf]; omega
    · go_wp2
      go_ret
      exact ⟨-1, rfl, .inr ⟨rfl, fun j hj => HZ.out j (by omega)⟩, HN.out ▸ below_drewN HW.out _⟩
end Go.Proofs.Qxb6609384aDoor
