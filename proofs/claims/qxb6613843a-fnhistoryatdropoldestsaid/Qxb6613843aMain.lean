import Derived.Test.Qxb6613843aMakes
import Derived.Deep.Cut
namespace Go.Proofs.Qxb6613843a
open Go.RowKit

/-- copy(dst, src), dst a row of the call's own, of src's length: the run's equation, the world behind it a letter. -/
theorem copy_run {P : Program} (w w0 : World) (T e : TypeId) (hu : P.underlying T = some (.slice e)) (hsz : (P.info? e).map (·.size) = some 1) (g len dCap sCap : Nat) (x : Addr)
    (hrow : Row w g len) (X : Nat → Value) (hX : ∀ i, (X i).oneCell' = true) (hsrc : ∀ i, i < len → w.cell? (x.add i) = some (X i)) (B : Nat) (hb : Below B w0 w) (hBg : B ≤ g) :
    ∃ w2, (∀ ty, (Builtin.copy_ #[T, T] ty #[.slice (some ⟨g, 0, none⟩) len dCap, .slice (some x) len sCap]).run P w = .ok (.int .i64 (len : Int)) w2) ∧ Below B w0 w2 ∧ g < w2.heap.size ∧ ∀ i, i < len → w2.cell? ⟨g, i, none⟩ = some (X i) := by
  obtain ⟨c, t, hg, hn⟩ := hrow
  have hl : ((List.range len).map X).length = len := by simp
  have hlt : g < w.heap.size := (Array.getElem?_eq_some_iff.1 hg).1
  refine ⟨w.setRow g (c.toList.take 0 ++ (List.range len).map X ++ c.toList.drop (0 + ((List.range len).map X).length)).toArray, fun ty => ?_, below_setRow hb hBg _, by simpa using hlt, ?_⟩
  · have h := run_copy_row (P := P) w T T ty e g 0 len dCap x len sCap c t ((List.range len).map X) hu hsz hg (by simp) ?_ (by simp [hn]) ?_
    · rw [h, hl]; rfl
    · intro j v hv
      simp only [List.getElem?_map, Option.map_eq_some_iff] at hv
      obtain ⟨i, hi, rfl⟩ := hv
      obtain ⟨hlt, rfl⟩ := List.getElem?_eq_some_iff.1 hi
      simp only [List.length_range] at hlt
      simpa using hsrc j hlt
    · intro v hv
      simp only [List.mem_map] at hv
      obtain ⟨i, _, rfl⟩ := hv
      exact hX i
  · intro i hi
    have hh := setRow_heap w g c (c.toList.take 0 ++ (List.range len).map X ++ c.toList.drop (0 + ((List.range len).map X).length)).toArray t _ hg
    simp only [World.cell?, hh]
    simp only [List.take_zero, List.nil_append, List.getElem?_toArray, Option.isSome_none, Bool.false_eq_true, if_false]
    rw [List.getElem?_append_left (by simpa using hi)]
    simp [hi]

/-- What is known of a slice that came in. -/
def Src (w : World) (a : Option Addr) (n : Nat) (X : Nat → Value) : Prop :=
  (a = none ∧ n = 0) ∨ ∃ x, a = some x ∧ ∀ i, i < n → w.cell? (x.add i) = some (X i)

/-- What is known of its copy, made in a world that was w1: the value v, the world wr. -/
def Copied (w1 : World) (v : Value) (n : Nat) (X : Nat → Value) (wr : World) : Prop :=
  ∃ a c, v = .slice a n c ∧ Below w1.heap.size w1 wr ∧ (0 < n → ∃ g, a = some ⟨g, 0, none⟩ ∧ g < wr.heap.size ∧ ∀ i, i < n → wr.cell? ⟨g, i, none⟩ = some (X i))

theorem Src.later {w wA : World} {a : Option Addr} {n : Nat} {X : Nat → Value} (h : Src w a n X) (hb : Below w.heap.size w wA) : Src wA a n X := by
  rcases h with h | ⟨x, rfl, hx⟩
  · exact .inl h
  · exact .inr ⟨x, rfl, fun i hi => (hb.cell (World.block_lt_of_cell? w _ (hx i hi))).trans (hx i hi)⟩
theorem Copied.below {w1 wr : World} {v : Value} {n : Nat} {X : Nat → Value} (h : Copied w1 v n X wr) : Below w1.heap.size w1 wr := by
  obtain ⟨_, _, _, h, _⟩ := h; exact h
theorem Copied.later {w1 wr wz : World} {v : Value} {n : Nat} {X : Nat → Value} (h : Copied w1 v n X wr) (hb : Below wr.heap.size wr wz) : Copied w1 v n X wz := by
  obtain ⟨a, c, hv, h, hh⟩ := h
  refine ⟨a, c, hv, h.trans (hb.mono h.size), fun hn => ?_⟩
  obtain ⟨g, ha, hg, hx⟩ := hh hn
  exact ⟨g, ha, Nat.lt_of_lt_of_le hg hb.size, fun i hi => (hb.cell hg).trans (hx i hi)⟩

theorem slot_zero {F len : Nat} (h : F < len) : slot F 0 len = F := by unfold slot; rw [if_neg (by omega)]; omega
theorem slot_next {F len k : Nat} (_h : F < len) (h1 : 1 ≤ k) (h2 : k ≤ len) : slot F k len = slot (if F + 1 = len then 0 else F + 1) (k - 1) len := by
  unfold slot
  by_cases e : F + 1 = len
  · rw [if_pos e, if_pos (by omega), if_neg (by omega)]; omega
  · rw [if_neg e]
    by_cases e2 : len ≤ F + k
    · rw [if_pos e2, if_pos (by omega)]; omega
    · rw [if_neg e2, if_neg (by omega)]; omega
theorem hat_val (hb eb len f i s : Nat) (x : Int) (hx : x = i) (hs : slot f i len = s) (hf : f < len) (hi : i ≤ len) (hl : len ≤ 65536) (w : World) (h3 : w.cell? ⟨hb, 3, none⟩ = some (.slice (some ⟨eb, 0, none⟩) len len)) (h4 : w.cell? ⟨hb, 4, none⟩ = some (.int .i64 f)) (m : Nat) :
    Calls Try.prog 8 #[.pointer (some ⟨hb, 0, none⟩), .int .i64 x] (w.drewN m) fun e w' => e = .returned (.pointer (some ⟨eb, s * 4, none⟩)) ∧ ∃ m, w' = w.drewN m := by
  subst hx hs
  refine (hat_any hb eb len f i hf hi hl (w.drewN m) h3 h4).mono ?_
  rintro e w' ⟨rfl, m', rfl⟩
  exact ⟨rfl, m + m', by simp⟩
theorem bne_true {a b : Nat} (h : a ≠ b) : ((a : Int) != (b : Int)) = true := by simp; omega

theorem Try.info21 : (Try.prog.info? 21).map (fun i => (i.zero, i.size, i.bytes)) = some (some (.int .i32 0), 1, 4) := by kernel_rfl
theorem Try.info32 : (Try.prog.info? 32).map (fun i => (i.zero, i.size, i.bytes)) = some (some (.int .u16 0), 1, 2) := by kernel_rfl
theorem Try.info4 : (Try.prog.info? 4).map (fun i => (i.zero, i.size, i.bytes)) = some (some (.bool false), 1, 1) := by kernel_rfl
theorem Try.size21 : (Try.prog.info? 21).map (·.size) = some 1 := by kernel_rfl
theorem Try.size32 : (Try.prog.info? 32).map (·.size) = some 1 := by kernel_rfl
theorem Try.size4 : (Try.prog.info? 4).map (·.size) = some 1 := by kernel_rfl

theorem walk_long (a0 a1 a2 a3 : Option Addr) (n0 n1 n2 n3 c0 c1 c2 c3 : Nat) (f n : Int) (w : World)
    (h : 65536 < n0 ∨ (n0 ≤ 65536 ∧ 65536 < n1) ∨ (n0 ≤ 65536 ∧ n1 ≤ 65536 ∧ 65536 < n2) ∨ (n0 ≤ 65536 ∧ n1 ≤ 65536 ∧ n2 ≤ 65536 ∧ 65536 < n3)) :
    Calls Try.prog 3 #[.slice a0 n0 c0, .slice a1 n1 c1, .slice a2 n2 c2, .slice a3 n3 c3, .int .i64 f, .int .i64 n] w fun e w' => e = .returned (.bool true) ∧ Below w.heap.size w w' := by
  rcases h with h | ⟨h0, h⟩ | ⟨h0, h1, h⟩ | ⟨h0, h1, h2, h⟩
  all_goals
    go_enter Try.func3, Try.ntmps3
    go_wp2_with (go_at_call 5; refine (bytes_any _ _ _ _ _ _ _ _ _ _ _ _ _ _ _).mono ?_; rintro e w' ⟨⟨b, rfl⟩, rfl⟩)
    all_goals (go_ret; exact ⟨rfl, Below.refl _ _⟩)

set_option maxRecDepth 100000 in
set_option maxHeartbeats 1600000 in
theorem walk_short (a0 a1 a2 a3 : Option Addr) (n0 n1 n2 n3 c0 c1 c2 c3 : Nat) (X0 X1 X2 : Nat → Int) (X3 : Nat → Bool) (f n : Int) (w : World)
    (s0 : Src w a0 n0 (fun i => .int .i32 (X0 i))) (s1 : Src w a1 n1 (fun i => .int .i32 (X1 i))) (s2 : Src w a2 n2 (fun i => .int .u16 (X2 i))) (s3 : Src w a3 n3 (fun i => .bool (X3 i)))
    (l0 : n0 ≤ 65536) (l1 : n1 ≤ 65536) (l2 : n2 ≤ 65536) (l3 : n3 ≤ 65536) :
    Calls Try.prog 3 #[.slice a0 n0 c0, .slice a1 n1 c1, .slice a2 n2 c2, .slice a3 n3 c3, .int .i64 f, .int .i64 n] w fun e w' => e = .returned (.bool true) ∧ Below w.heap.size w w' := by
  have k22 := fun (wx : World) (a : Option Addr) (l c : Nat) => run_neq_slice_nil_any (P := Try.prog) wx 22 21 a l c 0 0 Try.underlying22
  have k23 := fun (wx : World) (a : Option Addr) (l c : Nat) => run_neq_slice_nil_any (P := Try.prog) wx 23 32 a l c 0 0 Try.underlying23
  have k24 := fun (wx : World) (a : Option Addr) (l c : Nat) => run_neq_slice_nil_any (P := Try.prog) wx 24 4 a l c 0 0 Try.underlying24
  have S0 : Hid (Src _ _ _ _) := s0
  have S1 : Hid (Src _ _ _ _) := s1
  have S2 : Hid (Src _ _ _ _) := s2
  have S3 : Hid (Src _ _ _ _) := s3
  clear s0 s1 s2 s3
  have kp := neq_ptr_same
  go_enter Try.func3, Try.ntmps3
  go_upto_if 43 with (go_at_call 5; refine (bytes_any _ _ _ _ _ _ _ _ _ _ _ _ _ _ _).mono ?_; rintro e w' ⟨⟨b, rfl⟩, hw⟩; have hw2 := hw.symm; subst hw2)
  · go_ret
    exact ⟨rfl, Below.refl _ _⟩
  obtain ⟨i21, hi21, hz21, hs21, hb21⟩ := info_parts Try.info21
  obtain ⟨i32, hi32, hz32, hs32, hb32⟩ := info_parts Try.info32
  obtain ⟨i4, hi4, hz4, hs4, hb4⟩ := info_parts Try.info4
  go_cut [0] from 22 (fun v wr => Copied w v n0 (fun i => .int .i32 (X0 i)) wr)
  case first =>
    have T0 := S0.out
    rcases T0 with ⟨rfl, rfl⟩ | ⟨x, rfl, hx⟩
    · go_wp2
      go_meet
      exact ⟨_, _, rfl, Below.refl _ _, fun h => by omega⟩
    · have HX : Hid (∀ i, i < n0 → w.cell? (x.add i) = some (.int .i32 (X0 i))) := hx
      clear hx
      go_wp2_with (at_make; refine wpList_make_full _ rfl _ _ 22 rfl w.heap.size 21 i21 _ 1 Try.underlying22 hi21 hz21 hs21 .i64 .i64 n0 n0 n0 rfl rfl rfl rfl (by rw [hb21]; omega) (by unfold maxLen; omega) (Nat.le_refl _) ?_)
      intro wm hown hgrow
      have hrow := Row.of_owns hown
      have hbel : Below w.heap.size w wm := (Below.refl _ _).grown hgrow (Nat.le_refl _) (fun _ h => by cases h)
      clear hown hgrow
      obtain ⟨wz, hcp, hbz, hgz, hcz⟩ := copy_run (P := Try.prog) wm w 22 21 Try.underlying22 Try.size21 w.heap.size n0 n0 c0 x (by simpa using hrow) (fun i => .int .i32 (X0 i)) (fun _ => rfl) (fun i hi => (hbel.cell (World.block_lt_of_cell? w _ (HX.out i hi))).trans (HX.out i hi)) w.heap.size hbel (Nat.le_refl _)
      have HC : Hid (∀ i, i < n0 → wz.cell? ⟨w.heap.size, i, none⟩ = some (.int .i32 (X0 i))) := hcz
      clear hcz hrow hbel
      go_wp2
      go_meet
      exact ⟨_, _, rfl, hbz, fun h => ⟨_, rfl, hgz, HC.out⟩⟩
  rename World => w1
  have C0 : Hid (Copied _ _ _ _ _) := hcut
  clear hcut
  replace S1 : Hid (Src w1 a1 n1 _) := S1.out.later C0.out.below
  replace S2 : Hid (Src w1 a2 n2 _) := S2.out.later C0.out.below
  replace S3 : Hid (Src w1 a3 n3 _) := S3.out.later C0.out.below
  clear S0
  go_upto_if 52 with fail
  go_cut [1] from 22 (fun v wr => Copied w1 v n1 (fun i => .int .i32 (X1 i)) wr)
  case first =>
    have T0 := S1.out
    rcases T0 with ⟨rfl, rfl⟩ | ⟨x, rfl, hx⟩
    · go_wp2
      go_meet
      exact ⟨_, _, rfl, Below.refl _ _, fun h => by omega⟩
    · have HX : Hid (∀ i, i < n1 → w1.cell? (x.add i) = some (.int .i32 (X1 i))) := hx
      clear hx
      go_wp2_with (at_make; refine wpList_make_full _ rfl _ _ 22 rfl w1.heap.size 21 i21 _ 1 Try.underlying22 hi21 hz21 hs21 .i64 .i64 n1 n1 n1 rfl rfl rfl rfl (by rw [hb21]; omega) (by unfold maxLen; omega) (Nat.le_refl _) ?_)
      intro wm hown hgrow
      have hrow := Row.of_owns hown
      have hbel : Below w1.heap.size w1 wm := (Below.refl _ _).grown hgrow (Nat.le_refl _) (fun _ h => by cases h)
      clear hown hgrow
      obtain ⟨wz, hcp, hbz, hgz, hcz⟩ := copy_run (P := Try.prog) wm w1 22 21 Try.underlying22 Try.size21 w1.heap.size n1 n1 c1 x (by simpa using hrow) (fun i => .int .i32 (X1 i)) (fun _ => rfl) (fun i hi => (hbel.cell (World.block_lt_of_cell? w1 _ (HX.out i hi))).trans (HX.out i hi)) w1.heap.size hbel (Nat.le_refl _)
      have HC : Hid (∀ i, i < n1 → wz.cell? ⟨w1.heap.size, i, none⟩ = some (.int .i32 (X1 i))) := hcz
      clear hcz hrow hbel
      go_wp2
      go_meet
      exact ⟨_, _, rfl, hbz, fun h => ⟨_, rfl, hgz, HC.out⟩⟩
  rename World => w2
  have C1 : Hid (Copied _ _ _ _ _) := hcut
  clear hcut
  replace S2 : Hid (Src w2 a2 n2 _) := S2.out.later C1.out.below
  replace S3 : Hid (Src w2 a3 n3 _) := S3.out.later C1.out.below
  clear S1
  go_upto_if 61 with fail
  go_cut [2] from 22 (fun v wr => Copied w2 v n2 (fun i => .int .u16 (X2 i)) wr)
  case first =>
    have T0 := S2.out
    rcases T0 with ⟨rfl, rfl⟩ | ⟨x, rfl, hx⟩
    · go_wp2
      go_meet
      exact ⟨_, _, rfl, Below.refl _ _, fun h => by omega⟩
    · have HX : Hid (∀ i, i < n2 → w2.cell? (x.add i) = some (.int .u16 (X2 i))) := hx
      clear hx
      go_wp2_with (at_make; refine wpList_make_full _ rfl _ _ 23 rfl w2.heap.size 32 i32 _ 1 Try.underlying23 hi32 hz32 hs32 .i64 .i64 n2 n2 n2 rfl rfl rfl rfl (by rw [hb32]; omega) (by unfold maxLen; omega) (Nat.le_refl _) ?_)
      intro wm hown hgrow
      have hrow := Row.of_owns hown
      have hbel : Below w2.heap.size w2 wm := (Below.refl _ _).grown hgrow (Nat.le_refl _) (fun _ h => by cases h)
      clear hown hgrow
      obtain ⟨wz, hcp, hbz, hgz, hcz⟩ := copy_run (P := Try.prog) wm w2 23 32 Try.underlying23 Try.size32 w2.heap.size n2 n2 c2 x (by simpa using hrow) (fun i => .int .u16 (X2 i)) (fun _ => rfl) (fun i hi => (hbel.cell (World.block_lt_of_cell? w2 _ (HX.out i hi))).trans (HX.out i hi)) w2.heap.size hbel (Nat.le_refl _)
      have HC : Hid (∀ i, i < n2 → wz.cell? ⟨w2.heap.size, i, none⟩ = some (.int .u16 (X2 i))) := hcz
      clear hcz hrow hbel
      go_wp2
      go_meet
      exact ⟨_, _, rfl, hbz, fun h => ⟨_, rfl, hgz, HC.out⟩⟩
  rename World => w3
  have C2 : Hid (Copied _ _ _ _ _) := hcut
  clear hcut
  replace S3 : Hid (Src w3 a3 n3 _) := S3.out.later C2.out.below
  clear S2
  go_upto_if 70 with fail
  go_cut [3] from 22 (fun v wr => Copied w3 v n3 (fun i => .bool (X3 i)) wr)
  case first =>
    have T0 := S3.out
    rcases T0 with ⟨rfl, rfl⟩ | ⟨x, rfl, hx⟩
    · go_wp2
      go_meet
      exact ⟨_, _, rfl, Below.refl _ _, fun h => by omega⟩
    · have HX : Hid (∀ i, i < n3 → w3.cell? (x.add i) = some (.bool (X3 i))) := hx
      clear hx
      go_wp2_with (at_make; refine wpList_make_full _ rfl _ _ 24 rfl w3.heap.size 4 i4 _ 1 Try.underlying24 hi4 hz4 hs4 .i64 .i64 n3 n3 n3 rfl rfl rfl rfl (by rw [hb4]; omega) (by unfold maxLen; omega) (Nat.le_refl _) ?_)
      intro wm hown hgrow
      have hrow := Row.of_owns hown
      have hbel : Below w3.heap.size w3 wm := (Below.refl _ _).grown hgrow (Nat.le_refl _) (fun _ h => by cases h)
      clear hown hgrow
      obtain ⟨wz, hcp, hbz, hgz, hcz⟩ := copy_run (P := Try.prog) wm w3 24 4 Try.underlying24 Try.size4 w3.heap.size n3 n3 c3 x (by simpa using hrow) (fun i => .bool (X3 i)) (fun _ => rfl) (fun i hi => (hbel.cell (World.block_lt_of_cell? w3 _ (HX.out i hi))).trans (HX.out i hi)) w3.heap.size hbel (Nat.le_refl _)
      have HC : Hid (∀ i, i < n3 → wz.cell? ⟨w3.heap.size, i, none⟩ = some (.bool (X3 i))) := hcz
      clear hcz hrow hbel
      go_wp2
      go_meet
      exact ⟨_, _, rfl, hbz, fun h => ⟨_, rfl, hgz, HC.out⟩⟩
  rename World => w4
  have C3 : Hid (Copied _ _ _ _ _) := hcut
  clear hcut
  clear S3
  have D0 := ((C0.out.later C1.out.below).later C2.out.below).later C3.out.below
  have D1 := (C1.out.later C2.out.below).later C3.out.below
  have D2 := C2.out.later C3.out.below
  have D3 := C3.out
  have HB : Hid (Below w.heap.size w w4) := D0.below
  clear C0 C1 C2 C3
  obtain ⟨p0, d0, hv0, -, f0⟩ := D0
  obtain ⟨p1, d1, hv1, -, f1⟩ := D1
  obtain ⟨p2, d2, hv2, -, f2⟩ := D2
  obtain ⟨p3, d3, hv3, -, f3⟩ := D3
  subst hv0 hv1 hv2 hv3
  clear k22 k23 k24 hi21 hz21 hs21 hb21 hi32 hz32 hs32 hb32 hi4 hz4 hs4 hb4
  have F0 : Hid (0 < n0 → _) := f0
  have F1 : Hid (0 < n1 → _) := f1
  have F2 : Hid (0 < n2 → _) := f2
  have F3 : Hid (0 < n3 → _) := f3
  clear f0 f1 f2 f3
  rcases (show n0 < 1 ∨ (0 < n0 ∧ n1 ≠ n0) ∨ (0 < n0 ∧ n1 = n0 ∧ n2 ≠ n0) ∨ (0 < n0 ∧ n1 = n0 ∧ n2 = n0 ∧ n3 ≠ n0) ∨ (0 < n0 ∧ n1 = n0 ∧ n2 = n0 ∧ n3 = n0) from by omega) with h | ⟨hp, h⟩ | ⟨hp, rfl, h⟩ | ⟨hp, rfl, rfl, h⟩ | ⟨hp, rfl, rfl, rfl⟩
  · go_wp2
    go_ret
    exact ⟨rfl, HB.out⟩
  · replace h := bne_true h
    go_wp2
    go_ret
    exact ⟨rfl, HB.out⟩
  · replace h := bne_true h
    go_wp2
    go_ret
    exact ⟨rfl, HB.out⟩
  · replace h := bne_true h
    go_wp2
    go_ret
    exact ⟨rfl, HB.out⟩
  rcases (show f < 0 ∨ (0 ≤ f ∧ (n3 : Int) ≤ f) ∨ (0 ≤ f ∧ f < n3 ∧ n < 1) ∨ (0 ≤ f ∧ f < n3 ∧ 1 ≤ n ∧ (n3 : Int) < n) ∨ (0 ≤ f ∧ f < n3 ∧ 1 ≤ n ∧ n ≤ n3) from by omega) with h | ⟨h1, h⟩ | ⟨h1, h2, h⟩ | ⟨h1, h2, h3, h⟩ | ⟨h1, h2, h3, h4⟩
  · go_wp2
    go_ret
    exact ⟨rfl, HB.out⟩
  · go_wp2
    go_ret
    exact ⟨rfl, HB.out⟩
  · go_wp2
    go_ret
    exact ⟨rfl, HB.out⟩
  · go_wp2
    go_ret
    exact ⟨rfl, HB.out⟩
  obtain ⟨F, rfl⟩ := Int.eq_ofNat_of_zero_le h1
  obtain ⟨N, rfl⟩ := Int.eq_ofNat_of_zero_le (show 0 ≤ n by omega)
  obtain ⟨g0, rfl, q0, e0⟩ := F0.out hp
  obtain ⟨g1, rfl, q1, e1⟩ := F1.out hp
  obtain ⟨g2, rfl, q2, e2⟩ := F2.out hp
  obtain ⟨g3, rfl, q3, e3⟩ := F3.out hp
  have K := fun (wx : World) (hwx : wx = w4) => newHist_any g0 g1 g2 g3 n3 d0 d1 d2 d3 X0 X1 X2 X3 F N wx l0 (by rw [hwx]; exact q0) (by rw [hwx]; exact q1) (by rw [hwx]; exact q2) (by rw [hwx]; exact q3) (by rw [hwx]; exact e0) (by rw [hwx]; exact e1) (by rw [hwx]; exact e2) (by rw [hwx]; exact e3)
  have HK : Hid (∀ wx : World, _) := K
  clear K q0 q1 q2 q3 e0 e1 e2 e3 F0 F1 F2 F3
  have hF : F < n3 := by omega
  have hN : N ≤ n3 := by omega
  have hN1 : 1 ≤ N := by omega
  have hG : ∃ G : Nat, G < n3 ∧ (∀ k, 1 ≤ k → k ≤ n3 → slot F k n3 = slot G (k - 1) n3) ∧ ((n3 ≤ F + 1 ∧ G = 0) ∨ (F + 1 < n3 ∧ G = F + 1)) := by
    by_cases e : F + 1 = n3
    · exact ⟨0, by omega, fun k k1 k2 => by rw [slot_next hF k1 k2, if_pos e], .inl ⟨by omega, rfl⟩⟩
    · exact ⟨F + 1, by omega, fun k k1 k2 => by rw [slot_next hF k1 k2, if_neg e], .inr ⟨by omega, rfl⟩⟩
  obtain ⟨G, hGn, hsl, hcase⟩ := hG
  have HS : Hid (∀ k, 1 ≤ k → k ≤ n3 → slot F k n3 = slot G (k - 1) n3) := hsl
  clear hsl
  rcases hcase with ⟨hx, rfl⟩ | ⟨hx, rfl⟩
  · go_wp2_with (first | (go_at_call 6; refine (HK.out _ rfl).mono ?_; rintro e w' ⟨w5, rfl, rfl, hb5⟩) | (go_at_call 7; refine (first_any w5.heap.size w4.heap.size n3 F N _ (by simp) (by simp) (by simp) (by simp) (by simp) (by simp) _ _).mono ?_; rintro e w' ⟨rfl, rfl⟩))
    have hbW : Below w.heap.size w ((w5.alloc (.cells #[.slice none 0 0, .int .i64 0, .int .i64 0, .slice (some ⟨w4.heap.size, 0, none⟩) n3 n3, .int .i64 (F : Int), .int .i64 (N : Int)] 37)).alloc (.cells #[.slice none 0 0, .int .i64 0, .int .i64 0, .slice (some ⟨w4.heap.size, 0, none⟩) n3 n3, .int .i64 0, .int .i64 ((N : Int) - 1)] 37)) := by
      have hz := HB.out.size
      have hz5 := hb5.size
      exact ((HB.out.trans (hb5.mono hz)).alloc (by omega) _).alloc (by simp; omega) _
    have z3 : ((w5.alloc (.cells #[.slice none 0 0, .int .i64 0, .int .i64 0, .slice (some ⟨w4.heap.size, 0, none⟩) n3 n3, .int .i64 (F : Int), .int .i64 (N : Int)] 37)).alloc (.cells #[.slice none 0 0, .int .i64 0, .int .i64 0, .slice (some ⟨w4.heap.size, 0, none⟩) n3 n3, .int .i64 0, .int .i64 ((N : Int) - 1)] 37)).cell? ⟨w5.heap.size, 3, none⟩ = some (.slice (some ⟨w4.heap.size, 0, none⟩) n3 n3) := by simp
    have z4 : ((w5.alloc (.cells #[.slice none 0 0, .int .i64 0, .int .i64 0, .slice (some ⟨w4.heap.size, 0, none⟩) n3 n3, .int .i64 (F : Int), .int .i64 (N : Int)] 37)).alloc (.cells #[.slice none 0 0, .int .i64 0, .int .i64 0, .slice (some ⟨w4.heap.size, 0, none⟩) n3 n3, .int .i64 0, .int .i64 ((N : Int) - 1)] 37)).cell? ⟨w5.heap.size, 4, none⟩ = some (.int .i64 (F : Int)) := by simp
    have y3 : ((w5.alloc (.cells #[.slice none 0 0, .int .i64 0, .int .i64 0, .slice (some ⟨w4.heap.size, 0, none⟩) n3 n3, .int .i64 (F : Int), .int .i64 (N : Int)] 37)).alloc (.cells #[.slice none 0 0, .int .i64 0, .int .i64 0, .slice (some ⟨w4.heap.size, 0, none⟩) n3 n3, .int .i64 0, .int .i64 ((N : Int) - 1)] 37)).cell? ⟨w5.heap.size + 1, 3, none⟩ = some (.slice (some ⟨w4.heap.size, 0, none⟩) n3 n3) := by simp
    have y4 : ((w5.alloc (.cells #[.slice none 0 0, .int .i64 0, .int .i64 0, .slice (some ⟨w4.heap.size, 0, none⟩) n3 n3, .int .i64 (F : Int), .int .i64 (N : Int)] 37)).alloc (.cells #[.slice none 0 0, .int .i64 0, .int .i64 0, .slice (some ⟨w4.heap.size, 0, none⟩) n3 n3, .int .i64 0, .int .i64 ((N : Int) - 1)] 37)).cell? ⟨w5.heap.size + 1, 4, none⟩ = some (.int .i64 ((0 : Nat) : Int)) := by simp
    generalize ((w5.alloc (.cells #[.slice none 0 0, .int .i64 0, .int .i64 0, .slice (some ⟨w4.heap.size, 0, none⟩) n3 n3, .int .i64 (F : Int), .int .i64 (N : Int)] 37)).alloc (.cells #[.slice none 0 0, .int .i64 0, .int .i64 0, .slice (some ⟨w4.heap.size, 0, none⟩) n3 n3, .int .i64 0, .int .i64 ((N : Int) - 1)] 37)) = W at hbW z3 z4 y3 y4 ⊢
    have HW : Hid (Below w.heap.size w W) := hbW
    have Z3 : Hid (_ = _) := z3
    have Z4 : Hid (_ = _) := z4
    have Y3 : Hid (_ = _) := y3
    have Y4 : Hid (_ = _) := y4
    clear hbW z4 y3 y4 HB HK
    refine (hat_val w5.heap.size w4.heap.size n3 F 0 F 0 rfl (slot_zero hF) hF (Nat.zero_le _) l0 W z3 Z4.out 0).mono ?_
    rintro e w' ⟨rfl, m, rfl⟩
    go_wp2_with (go_at_call 9; refine (entry_any w5.heap.size w4.heap.size n3 F hF _ (by simpa using Z3.out)).mono ?_; rintro e w' ⟨rfl, rfl⟩)
    clear z3
    go_loopw [21] (fun i wr => ∃ k : Nat, 1 ≤ k ∧ k ≤ N ∧ i = .int .i64 k ∧ ∃ m, wr = W.drewN m) (fun i _ => N - (intOf i).toNat)
    case atStart => exact ⟨1, Nat.le_refl _, hN1, rfl, m, rfl⟩
    case round =>
      obtain ⟨k, hk1, hk, rfl, m, rfl⟩ := hrel
      by_cases hlt : k < N
      · obtain ⟨s, hs⟩ : ∃ s, slot F k n3 = s := ⟨_, rfl⟩
        have hs2 : slot (0) (k - 1) n3 = s := (HS.out k hk1 (by omega)).symm.trans hs
        have K1 := hat_val w5.heap.size w4.heap.size n3 F k s k rfl hs hF (by omega) l0 W Z3.out Z4.out
        have K2 := hat_val (w5.heap.size + 1) w4.heap.size n3 (0) (k - 1) s ((k : Int) - 1) (by omega) hs2 hGn (by omega) l0 W Y3.out Y4.out
        have HK1 : Hid (∀ m : Nat, _) := K1
        have HK2 : Hid (∀ m : Nat, _) := K2
        clear K1 K2 hs hs2
        go_wp2_with fail
        refine (HK1.out _).mono ?_
        rintro e w' ⟨rfl, m', rfl⟩
        go_wp2_with fail
        refine (HK2.out _).mono ?_
        rintro e w' ⟨rfl, m'', rfl⟩
        go_wp2
        go_roundw
        case rel => exact ⟨k + 1, by omega, by omega, by go_num, _, rfl⟩
        case measure => simp [intOf]; omega
      · go_wp2
        go_ret
        exact ⟨rfl, HW.out.trans ⟨rfl, rfl, rfl, Nat.le_refl _, fun _ _ => rfl⟩⟩
  · go_wp2_with (first | (go_at_call 6; refine (HK.out _ rfl).mono ?_; rintro e w' ⟨w5, rfl, rfl, hb5⟩) | (go_at_call 7; refine (first_any w5.heap.size w4.heap.size n3 F N _ (by simp) (by simp) (by simp) (by simp) (by simp) (by simp) _ _).mono ?_; rintro e w' ⟨rfl, rfl⟩))
    have hbW : Below w.heap.size w ((w5.alloc (.cells #[.slice none 0 0, .int .i64 0, .int .i64 0, .slice (some ⟨w4.heap.size, 0, none⟩) n3 n3, .int .i64 (F : Int), .int .i64 (N : Int)] 37)).alloc (.cells #[.slice none 0 0, .int .i64 0, .int .i64 0, .slice (some ⟨w4.heap.size, 0, none⟩) n3 n3, .int .i64 ((F : Int) + 1), .int .i64 ((N : Int) - 1)] 37)) := by
      have hz := HB.out.size
      have hz5 := hb5.size
      exact ((HB.out.trans (hb5.mono hz)).alloc (by omega) _).alloc (by simp; omega) _
    have z3 : ((w5.alloc (.cells #[.slice none 0 0, .int .i64 0, .int .i64 0, .slice (some ⟨w4.heap.size, 0, none⟩) n3 n3, .int .i64 (F : Int), .int .i64 (N : Int)] 37)).alloc (.cells #[.slice none 0 0, .int .i64 0, .int .i64 0, .slice (some ⟨w4.heap.size, 0, none⟩) n3 n3, .int .i64 ((F : Int) + 1), .int .i64 ((N : Int) - 1)] 37)).cell? ⟨w5.heap.size, 3, none⟩ = some (.slice (some ⟨w4.heap.size, 0, none⟩) n3 n3) := by simp
    have z4 : ((w5.alloc (.cells #[.slice none 0 0, .int .i64 0, .int .i64 0, .slice (some ⟨w4.heap.size, 0, none⟩) n3 n3, .int .i64 (F : Int), .int .i64 (N : Int)] 37)).alloc (.cells #[.slice none 0 0, .int .i64 0, .int .i64 0, .slice (some ⟨w4.heap.size, 0, none⟩) n3 n3, .int .i64 ((F : Int) + 1), .int .i64 ((N : Int) - 1)] 37)).cell? ⟨w5.heap.size, 4, none⟩ = some (.int .i64 (F : Int)) := by simp
    have y3 : ((w5.alloc (.cells #[.slice none 0 0, .int .i64 0, .int .i64 0, .slice (some ⟨w4.heap.size, 0, none⟩) n3 n3, .int .i64 (F : Int), .int .i64 (N : Int)] 37)).alloc (.cells #[.slice none 0 0, .int .i64 0, .int .i64 0, .slice (some ⟨w4.heap.size, 0, none⟩) n3 n3, .int .i64 ((F : Int) + 1), .int .i64 ((N : Int) - 1)] 37)).cell? ⟨w5.heap.size + 1, 3, none⟩ = some (.slice (some ⟨w4.heap.size, 0, none⟩) n3 n3) := by simp
    have y4 : ((w5.alloc (.cells #[.slice none 0 0, .int .i64 0, .int .i64 0, .slice (some ⟨w4.heap.size, 0, none⟩) n3 n3, .int .i64 (F : Int), .int .i64 (N : Int)] 37)).alloc (.cells #[.slice none 0 0, .int .i64 0, .int .i64 0, .slice (some ⟨w4.heap.size, 0, none⟩) n3 n3, .int .i64 ((F : Int) + 1), .int .i64 ((N : Int) - 1)] 37)).cell? ⟨w5.heap.size + 1, 4, none⟩ = some (.int .i64 ((F + 1 : Nat) : Int)) := by simp
    generalize ((w5.alloc (.cells #[.slice none 0 0, .int .i64 0, .int .i64 0, .slice (some ⟨w4.heap.size, 0, none⟩) n3 n3, .int .i64 (F : Int), .int .i64 (N : Int)] 37)).alloc (.cells #[.slice none 0 0, .int .i64 0, .int .i64 0, .slice (some ⟨w4.heap.size, 0, none⟩) n3 n3, .int .i64 ((F : Int) + 1), .int .i64 ((N : Int) - 1)] 37)) = W at hbW z3 z4 y3 y4 ⊢
    have HW : Hid (Below w.heap.size w W) := hbW
    have Z3 : Hid (_ = _) := z3
    have Z4 : Hid (_ = _) := z4
    have Y3 : Hid (_ = _) := y3
    have Y4 : Hid (_ = _) := y4
    clear hbW z4 y3 y4 HB HK
    refine (hat_val w5.heap.size w4.heap.size n3 F 0 F 0 rfl (slot_zero hF) hF (Nat.zero_le _) l0 W z3 Z4.out 0).mono ?_
    rintro e w' ⟨rfl, m, rfl⟩
    go_wp2_with (go_at_call 9; refine (entry_any w5.heap.size w4.heap.size n3 F hF _ (by simpa using Z3.out)).mono ?_; rintro e w' ⟨rfl, rfl⟩)
    clear z3
    go_loopw [21] (fun i wr => ∃ k : Nat, 1 ≤ k ∧ k ≤ N ∧ i = .int .i64 k ∧ ∃ m, wr = W.drewN m) (fun i _ => N - (intOf i).toNat)
    case atStart => exact ⟨1, Nat.le_refl _, hN1, rfl, m, rfl⟩
    case round =>
      obtain ⟨k, hk1, hk, rfl, m, rfl⟩ := hrel
      by_cases hlt : k < N
      · obtain ⟨s, hs⟩ : ∃ s, slot F k n3 = s := ⟨_, rfl⟩
        have hs2 : slot (F + 1) (k - 1) n3 = s := (HS.out k hk1 (by omega)).symm.trans hs
        have K1 := hat_val w5.heap.size w4.heap.size n3 F k s k rfl hs hF (by omega) l0 W Z3.out Z4.out
        have K2 := hat_val (w5.heap.size + 1) w4.heap.size n3 (F + 1) (k - 1) s ((k : Int) - 1) (by omega) hs2 hGn (by omega) l0 W Y3.out Y4.out
        have HK1 : Hid (∀ m : Nat, _) := K1
        have HK2 : Hid (∀ m : Nat, _) := K2
        clear K1 K2 hs hs2
        go_wp2_with fail
        refine (HK1.out _).mono ?_
        rintro e w' ⟨rfl, m', rfl⟩
        go_wp2_with fail
        refine (HK2.out _).mono ?_
        rintro e w' ⟨rfl, m'', rfl⟩
        go_wp2
        go_roundw
        case rel => exact ⟨k + 1, by omega, by omega, by go_num, _, rfl⟩
        case measure => simp [intOf]; omega
      · go_wp2
        go_ret
        exact ⟨rfl, HW.out.trans ⟨rfl, rfl, rfl, Nat.le_refl _, fun _ _ => rfl⟩⟩
end Go.Proofs.Qxb6613843a
