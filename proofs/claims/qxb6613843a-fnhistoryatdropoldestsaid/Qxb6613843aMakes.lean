import Derived.Test.Qxb6613843aReads
import Derived.BigRegion
import Derived.Laws.CopyOwn
import Derived.Deep.OwnRows
namespace Go.Proofs.Qxb6613843a
open Go.RowKit

theorem first_any (hb eb len : Nat) (f n : Int) (w : World)
    (h0 : w.cell? ⟨hb, 0, none⟩ = some (.slice none 0 0)) (h1 : w.cell? ⟨hb, 1, none⟩ = some (.int .i64 0)) (h2 : w.cell? ⟨hb, 2, none⟩ = some (.int .i64 0))
    (h3 : w.cell? ⟨hb, 3, none⟩ = some (.slice (some ⟨eb, 0, none⟩) len len)) (h4 : w.cell? ⟨hb, 4, none⟩ = some (.int .i64 f)) (h5 : w.cell? ⟨hb, 5, none⟩ = some (.int .i64 n)) (f' n' : Int) :
    Calls Try.prog 7 #[.pointer (some ⟨hb, 0, none⟩), .int .i64 f', .int .i64 n'] w fun e w' => e = .returned (.pointer (some ⟨w.heap.size, 0, none⟩)) ∧
      w' = w.alloc (.cells #[.slice none 0 0, .int .i64 0, .int .i64 0, .slice (some ⟨eb, 0, none⟩) len len, .int .i64 f', .int .i64 n'] 37) := by
  go_enter Try.func7, Try.ntmps7
  go_wp2
  go_ret
  exact ⟨rfl, rfl⟩

/-- Block b is a row of n cells, none frozen. -/
def Row (w : World) (b n : Nat) : Prop := ∃ c t, w.heap[b]? = some (.cells c t (0, 0)) ∧ c.size = n
theorem Row.frozen {w : World} {b n : Nat} (h : Row w b n) (i : Nat) : w.frozen? ⟨b, i, none⟩ = false := by
  obtain ⟨c, t, hb, _⟩ := h; simp [World.frozen?, hb]
theorem Row.cell {w : World} {b n : Nat} (h : Row w b n) {i : Nat} (hi : i < n) : ∃ v, w.cell? ⟨b, i, none⟩ = some v := by
  obtain ⟨c, t, hb, rfl⟩ := h; exact ⟨c[i], by simp [World.cell?, hb, hi]⟩
theorem Row.set {w : World} {b n : Nat} (h : Row w b n) (i : Nat) (v : Value) : Row (w.setCell ⟨b, i, none⟩ v) b n := by
  obtain ⟨c, t, hb, hn⟩ := h
  exact ⟨c.setIfInBounds i v, t, by simp [World.setCell, Array.getElem?_modify, hb], by simpa using hn⟩
theorem Row.drew {w : World} {b n : Nat} (h : Row w b n) : Row w.drew b n := h
theorem Row.lt {w : World} {b n : Nat} (h : Row w b n) : b < w.heap.size := by
  obtain ⟨c, t, hb, _⟩ := h; exact (Array.getElem?_eq_some_iff.1 hb).1
theorem Row.of_owns {w : World} {base e size g n cap : Nat} {xs : List Value} (h : w.ownsRow base e size (.slice (some ⟨g, 0, none⟩) n cap) n xs) : Row w g (cap * size) := by
  obtain ⟨_, h | ⟨g', cap', cur, hv, _, hh, _, _, hs, _⟩⟩ := h
  · simp at h
  · simp only [Value.slice.injEq, Option.some.injEq, Addr.mk.injEq] at hv
    obtain ⟨⟨rfl, _⟩, _, rfl⟩ := hv
    exact ⟨cur, e, hh, hs⟩

theorem Try.info34 : (Try.prog.info? 34).map (fun i => (i.zero, i.size, i.bytes)) = some (some (.agg #[.int .i32 0, .int .i32 0, .int .u16 0, .bool false]), 4, 12) := by kernel_rfl

theorem equalIn_ptr_same (d : Nat) (b o : Nat) (w : World) : (Op.equalIn (d + 1) 29 (.pointer (some ⟨b, o, none⟩)) (.pointer (some ⟨b, o, none⟩))).run Try.prog w = .ok true w := by
  obtain ⟨i0, hi, _, _, _⟩ := info_parts Try.info34
  simp [Op.equalIn, run_underlying Try.underlying29, samePointer, sameAddr, sizeOf, typeInfo, hi]
theorem neq_ptr_same (b o : Nat) (w : World) : (binOp .neq 29 (.pointer (some ⟨b, o, none⟩)) (.pointer (some ⟨b, o, none⟩))).run Try.prog w = .ok (.bool false) w := by
  have h : (Op.equal 29 (.pointer (some ⟨b, o, none⟩)) (.pointer (some ⟨b, o, none⟩))).run Try.prog w = .ok true w := equalIn_ptr_same 9999 b o w
  simp only [binOp]
  simp [h]

set_option maxHeartbeats 800000 in
theorem newHist_any (b0 b1 b2 b3 len c0 c1 c2 c3 : Nat) (X0 X1 X2 : Nat → Int) (X3 : Nat → Bool) (f n : Int) (w : World) (hl : len ≤ 65536)
    (q0 : b0 < w.heap.size) (q1 : b1 < w.heap.size) (q2 : b2 < w.heap.size) (q3 : b3 < w.heap.size)
    (h0 : ∀ i, i < len → w.cell? ⟨b0, i, none⟩ = some (.int .i32 (X0 i))) (h1 : ∀ i, i < len → w.cell? ⟨b1, i, none⟩ = some (.int .i32 (X1 i)))
    (h2 : ∀ i, i < len → w.cell? ⟨b2, i, none⟩ = some (.int .u16 (X2 i))) (h3 : ∀ i, i < len → w.cell? ⟨b3, i, none⟩ = some (.bool (X3 i))) :
    Calls Try.prog 6 #[.slice (some ⟨b0, 0, none⟩) len c0, .slice (some ⟨b1, 0, none⟩) len c1, .slice (some ⟨b2, 0, none⟩) len c2, .slice (some ⟨b3, 0, none⟩) len c3, .int .i64 f, .int .i64 n] w fun e w' =>
      ∃ w1, e = .returned (.pointer (some ⟨w1.heap.size, 0, none⟩)) ∧ w' = w1.alloc (.cells #[.slice none 0 0, .int .i64 0, .int .i64 0, .slice (some ⟨w.heap.size, 0, none⟩) len len, .int .i64 f, .int .i64 n] 37) ∧ Below w.heap.size w w1 := by
  obtain ⟨i0, hi, hz0, hz1, hz2⟩ := info_parts Try.info34
  go_enter Try.func6, Try.ntmps6
  go_wp2_with (at_make; refine wpList_make_full _ rfl _ _ 31 rfl w.heap.size 34 i0 _ 4 Try.underlying31 hi hz0 hz1 .i64 .i64 len len len rfl rfl rfl rfl (by rw [hz2]; omega) (by unfold maxLen; omega) (Nat.le_refl _) ?_)
  intro w1 hown hgrow
  have hrow := Row.of_owns hown
  have hbel : Below w.heap.size w w1 := (Below.refl _ _).grown hgrow (Nat.le_refl _) (fun _ h => by cases h)
  clear hown hgrow
  go_wp2
  go_loopw [14] (fun i wr => ∃ k : Nat, k ≤ len ∧ i = .int .i64 k ∧ Row wr w.heap.size (len * 4) ∧ Below w.heap.size w wr) (fun i _ => len - (intOf i).toNat)
  case atStart => exact ⟨0, Nat.zero_le _, rfl, hrow, hbel⟩
  case round =>
    clear hrow hbel hi hz0 hz1 hz2
    obtain ⟨k, hk, rfl, hrow, hbel⟩ := hrel
    by_cases hlt : k < len
    · have g0 := (hbel.cell (p := ⟨b0, k, none⟩) q0).trans (h0 k hlt)
      have g1 := (hbel.cell (p := ⟨b1, k, none⟩) q1).trans (h1 k hlt)
      have g2 := (hbel.cell (p := ⟨b2, k, none⟩) q2).trans (h2 k hlt)
      have g3 := (hbel.cell (p := ⟨b3, k, none⟩) q3).trans (h3 k hlt)
      obtain ⟨u0, e0⟩ := hrow.cell (i := k * 4) (by omega)
      obtain ⟨u1, e1⟩ := hrow.cell (i := k * 4 + 1) (by omega)
      obtain ⟨u2, e2⟩ := hrow.cell (i := k * 4 + 2) (by omega)
      obtain ⟨u3, e3⟩ := hrow.cell (i := k * 4 + 3) (by omega)
      have z0 := hrow.frozen (k * 4)
      have z1 := hrow.frozen (k * 4 + 1)
      have z2 := hrow.frozen (k * 4 + 2)
      have z3 := hrow.frozen (k * 4 + 3)
      have R : Row ((((wr.setCell ⟨w.heap.size, k * 4, none⟩ (.int .i32 (X0 k))).setCell ⟨w.heap.size, k * 4 + 1, none⟩ (.int .i32 (X1 k))).setCell ⟨w.heap.size, k * 4 + 2, none⟩ (.int .u16 (X2 k))).setCell ⟨w.heap.size, k * 4 + 3, none⟩ (.bool (X3 k))) w.heap.size (len * 4) := (((hrow.set _ _).set _ _).set _ _).set _ _
      have S : Below w.heap.size w ((((wr.setCell ⟨w.heap.size, k * 4, none⟩ (.int .i32 (X0 k))).setCell ⟨w.heap.size, k * 4 + 1, none⟩ (.int .i32 (X1 k))).setCell ⟨w.heap.size, k * 4 + 2, none⟩ (.int .u16 (X2 k))).setCell ⟨w.heap.size, k * 4 + 3, none⟩ (.bool (X3 k))) := (((hbel.setCell (Nat.le_refl _) _).setCell (Nat.le_refl _) _).setCell (Nat.le_refl _) _).setCell (Nat.le_refl _) _
      have HR : Hid (Row _ _ _) := R
      have HS : Hid (Below _ _ _) := S
      clear R S hrow hbel h0 h1 h2 h3 q0 q1 q2 q3
      have hlt' : (k : Int) < (len : Int) := by omega
      go_wp2
      go_region
      all_goals
        go_wp2
        go_roundw
        case rel => exact ⟨k + 1, by omega, by go_num, HR.out.drew, HS.out.drew⟩
        case measure => simp [intOf]; omega
    · go_wp2
      go_ret
      exact ⟨_, rfl, rfl, hbel⟩
end Go.Proofs.Qxb6613843a
