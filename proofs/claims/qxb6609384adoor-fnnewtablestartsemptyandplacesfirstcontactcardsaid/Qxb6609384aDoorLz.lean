import Derived.Test.Qxb6609384aDoorBits
import Derived.Test.Qxb6609384aDoorKit
namespace Go.Proofs.Qxb6609384aDoor
open Go.RowKit
set_option linter.unusedSimpArgs false

theorem idA_get (s : Nat → Int) (k : Nat) (hk : k < 20) : (idA s)[k]? = some (.int .u8 (s k)) := by
  match k, hk with
  | 0, _ => rfl | 1, _ => rfl | 2, _ => rfl | 3, _ => rfl | 4, _ => rfl | 5, _ => rfl | 6, _ => rfl | 7, _ => rfl | 8, _ => rfl | 9, _ => rfl
  | 10, _ => rfl | 11, _ => rfl | 12, _ => rfl | 13, _ => rfl | 14, _ => rfl | 15, _ => rfl | 16, _ => rfl | 17, _ => rfl | 18, _ => rfl | 19, _ => rfl
  | n + 20, h => exact absurd h (by omega)

theorem Tryd.size5 : (Tryd.prog.info? 5).map (·.size) = some 1 := by kernel_rfl
theorem idx27 (s : Nat → Int) (k : Nat) (hk : k < 20) (w : World) : (Instr.index 27 (.agg (idA s)) (.int .i64 k)).run Tryd.prog w = .ok (.int .u8 (s k)) w := by
  have h5 := Tryd.size5
  cases hq : Tryd.prog.info? 5 with
  | none => simp [hq] at h5
  | some i =>
    have hs : i.size = 1 := by simpa [hq] using h5
    have hkk := idA_get s k hk
    simp [Instr.index, asIntOf, run_underlying Tryd.underlying27, sizeOf, typeInfo, hq, hs, hk, hkk, part, isAgg, run_underlying Tryd.underlying5]

/-- r is the number of zero bits that the twenty bytes D begin with. -/
def Lz (D : Nat → Nat) (r : Nat) : Prop :=
  (∃ i, i < 20 ∧ (∀ j, j < i → D j = 0) ∧ ∃ L, r + L = 8 * i + 8 ∧ 1 ≤ L ∧ L ≤ 8 ∧ 2 ^ (L - 1) ≤ D i ∧ D i < 2 ^ L) ∨ (r = 160 ∧ ∀ j, j < 20 → D j = 0)

theorem ret_int {k : IntKind} {a b : Int} (h : a = b) : Ending.returned (.int k a) = .returned (.int k b) := by rw [h]

set_option maxHeartbeats 800000 in
theorem lz_any (D : Nat → Nat) (hD : ∀ i, D i < 256) (w : World) :
    Calls Tryd.prog 34 #[.agg (idA fun i => (D i : Int))] w fun e w' => (∃ r : Nat, e = .returned (.int .i64 r) ∧ Lz D r ∧ r ≤ 160) ∧ w' = w.alloc (.cells (idA fun i => (D i : Int)) 27) := by
  generalize hs : (fun i => (D i : Int)) = s
  have hs' : ∀ i, s i = (D i : Int) := fun i => by rw [← hs]
  have HS : Hid (∀ i, s i = (D i : Int)) := hs'
  clear hs' hs
  have tok : True := trivial
  go_enter Tryd.func34, Tryd.ntmps34
  go_wp2_with (have _t := tok; refine wpList_load_mid (by rfl) 27 (.tmp 1) (by rfl) w.heap.size 0 (by rfl) (idA s).toList _ (range_new _ _ _) Tryd.underlying27 rfl (sz27 s) ?_; clear tok)
  go_loop [6] (fun t => ∃ k : Nat, k ≤ 20 ∧ t = .int .i64 k ∧ ∀ j, j < k → D j = 0) (fun t => 20 - (intOf t).toNat)
  case atStart => exact ⟨0, Nat.zero_le _, rfl, fun j hj => absurd hj (Nat.not_lt_zero _)⟩
  case round =>
    obtain ⟨k, hk, rfl, hz⟩ := hrel
    have HZ : Hid (∀ j, j < k → D j = 0) := hz
    have HD : Hid (∀ i, D i < 256) := hD
    clear hz hD
    by_cases hlt : k < 20
    · have hix : ∀ w, (Instr.index 27 (.agg (idA s)) (.int .i64 k)).run Tryd.prog w = .ok (.int .u8 (D k : Int)) w := fun w => by rw [← HS.out k]; exact idx27 s k hlt w
      obtain ⟨d, hd⟩ : ∃ d, d = D k := ⟨_, rfl⟩
      rw [← hd] at hix
      have HE : Hid (d = D k) := hd
      clear hd
      have hlt' : (k : Int) < 20 := by omega
      by_cases h0 : d = 0
      · have hb : ((d : Int) != 0) = false := by simp [h0]
        have H0 : Hid (d = 0) := h0
        clear h0
        go_wp2
        go_round
        case rel => exact ⟨k + 1, by omega, by go_num, fun j hj => by
          rcases Nat.lt_succ_iff_lt_or_eq.1 hj with h | h
          · exact HZ.out j h
          · rw [h, ← HE.out, H0.out]⟩
        case measure => simp [intOf]; omega
      · have hb : ((d : Int) != 0) = true := by simp [h0]
        have hd8 : d < 256 := by rw [HE.out]; exact HD.out k
        go_wp2_with (go_at_call 36; refine (lead8_any d hd8 _).mono ?_; rintro e w' ⟨⟨L, rfl, h1, h2, h3⟩, rfl⟩; have H2 : Hid _ := h2; have H3 : Hid _ := h3; clear h2 h3)
        go_ret
        obtain ⟨q1, q2⟩ := H3.out.resolve_left h0
        have h2 := H2.out
        rw [HE.out] at q2 h2
        exact ⟨⟨8 * k + 8 - L, ret_int (by omega), .inl ⟨k, hlt, HZ.out, L, by omega, q1, by omega, q2, h2⟩, by omega⟩, rfl⟩
    · go_wp2
      go_ret
      exact ⟨⟨160, rfl, .inr ⟨rfl, fun j hj => HZ.out j (by omega)⟩, by omega⟩, rfl⟩
end Go.Proofs.Qxb6609384aDoor
