/-
  The row's statement out of the walk, and the tied card. After the guide's worked texts MapyProofs and ToyasCard.
-/
import Derived.Test.Qxb6609384aDoorMain
import Derived.Test.Qxb6609384aDoorTie
import Derived.Test.Qxb6609384aDoorCards
import Derived.ProofKit
import Derived.OpenShut
import Derived.Lay
import Derived.Stop.Joined
import Derived.ChangeOld
import Derived.SevenTiedAt
namespace Go.Proofs.Qxb6609384aDoor
open Go.ChangeShapes Go.WideShapes Go.ChangeAt Go.RowKit

theorem own : ownKnob Tryd.prog.godebug = none := by kernel_rfl
theorem laidOut : laidOutB Tryd.prog = true := by kernel_rfl
def laid1 : List (String × DataW PUnit) := [("net/netip.z4", Rows.laid_net_netip_z4)]

section
variable {H : Type} {enc : TypeId × Value → H} {W : World} {base : Nat}

set_option maxRecDepth 100000 in
/-- An array of bytes, by value. -/
theorem open_bytes {n : Nat} {t : TypeId} {v : Value} {d : DataW H} {p : List MemPlace} (ht : Tryd.prog.underlying t = some (.array n 5)) (hct : Tryd.prog.cellsOf t = n) (hok : Value.okWide Tryd.prog W .any base t v)
    (h : DataW.Trod enc Tryd.prog W 0 (fun _ => true) true t v d p) : ∃ (cs : Array Value) (A : Nat → Nat), v = .agg cs ∧ cs.size = n ∧ (∀ i, A i < 256) ∧ ∀ i, i < n → cs[i]? = some (.int .u8 (A i : Int)) := by
  unfold Value.okWide at hok
  rw [ht] at hok
  obtain ⟨cs, rfl, hcs, _⟩ := hok
  obtain ⟨fuel, hf⟩ := h
  obtain ⟨xs, m, _, _, hlen, hxs, hel⟩ := DataW.trod_array ht hf
  rw [hct] at hcs
  have key : ∀ i, i < n → ∃ a : Nat, a < 256 ∧ cs[i]? = some (.int .u8 (a : Int)) := by
    intro i hi
    have h1 := hel i hi
    rw [Tryd.cells5] at h1
    have hx : xs[i]? = some (xs[i]'(by omega)) := List.getElem?_eq_getElem _
    rw [hx] at h1
    obtain ⟨k, e1, _, wf⟩ := DataW.trod_int Tryd.underlying5 h1
    have b := bounds_u8 wf
    have e2 : ((Value.agg cs).cells.toList.drop (i * 1)).take 1 = [cs[i]'(by omega)] := by
      simp only [Value.cells, Nat.mul_one]
      rw [List.drop_eq_getElem_cons (by simpa using (by omega : i < cs.size))]
      simp
    rw [e2] at e1
    simp only [List.cons.injEq, and_true] at e1
    refine ⟨k.toNat, by omega, ?_⟩
    rw [Array.getElem?_eq_getElem (by omega), e1, Int.toNat_of_nonneg b.1]
  refine ⟨cs, fun i => if hi : i < n then (key i hi).choose else 0, rfl, hcs, fun i => ?_, fun i hi => ?_⟩
  · by_cases hi : i < n
    · simp only [hi, dif_pos]; exact (key i hi).choose_spec.1
    · simp [hi]
  · simp only [hi, dif_pos]; exact (key i hi).choose_spec.2
end

theorem cs_idA {cs : Array Value} {A : Nat → Nat} (hs : cs.size = 20) (h : ∀ i, i < 20 → cs[i]? = some (.int .u8 (A i : Int))) : cs = idA fun i => (A i : Int) := by
  apply Array.ext_getElem?
  intro i
  by_cases hi : i < 20
  · rw [h i hi, idA_get _ i hi]
  · rw [Array.getElem?_eq_none (by omega), Array.getElem?_eq_none (by rw [idA_size]; omega)]
theorem cs_four {cs : Array Value} {A : Nat → Nat} (hs : cs.size = 4) (h : ∀ i, i < 4 → cs[i]? = some (.int .u8 (A i : Int))) : cs = #[.int .u8 (A 0 : Int), .int .u8 (A 1 : Int), .int .u8 (A 2 : Int), .int .u8 (A 3 : Int)] := by
  apply Array.ext_getElem?
  intro i
  match i with
  | 0 => exact h 0 (by omega)
  | 1 => exact h 1 (by omega)
  | 2 => exact h 2 (by omega)
  | 3 => exact h 3 (by omega)
  | k + 4 => rw [Array.getElem?_eq_none (by omega), Array.getElem?_eq_none (by simp)]

/-! ### The listed variable -/
theorem gZ : Tryd.prog.globalNamed "net/netip.z4" = some 0 := by kernel_rfl
theorem tZ : (Tryd.prog.globals[0]?).map (·.type) = some 34 := by kernel_rfl

theorem head_of_take {cs : Array Value} {n : Nat} {v : Value} (h : (cs.toList.drop 0).take n = [v]) : cs[0]? = some v := by
  obtain ⟨l⟩ := cs
  cases l with
  | nil => simp at h
  | cons x r =>
    cases n with
    | zero => simp at h
    | succ n =>
      simp at h
      simp [h.1]

theorem of_laid {W : World} (h : laidMetH Tryd.prog laid1 W) : ∃ z, W.cell? ⟨0, 0, none⟩ = some (.pointer z) := by
  rw [MakeChecks.laidMetH_plain _ _ _ (by kernel_rfl)] at h
  obtain ⟨ps, ⟨g0, t0, cs0, f0, p0, q0, hg0, ht0, hv0, hd0, _, _⟩, _, _⟩ := h
  obtain rfl := Option.some.inj (gZ.symm.trans hg0)
  obtain rfl := Option.some.inj (tZ.symm.trans ht0)
  obtain ⟨y, m, hx, hl, hy⟩ := trod_struct1 Tryd.underlying34 hd0
  rcases DataW.trod_pointer Tryd.underlying32 hy with ⟨e, _⟩ | ⟨a, _, _, _, _, e, _⟩
  · exact ⟨none, by rw [World.var?_cell hg0 hv0 0]; exact head_of_take e⟩
  · exact ⟨some a, by rw [World.var?_cell hg0 hv0 0]; exact head_of_take e⟩

theorem door_met (os : Os) (args : Array Value) : laidMetH Tryd.prog laid1 ((World.laidAll Tryd.prog os laid1).forCall (fun _ _ => 0) ⟨#[], args, []⟩).memory := by
  rw [MakeChecks.laidMetH_plain _ _ _ (by kernel_rfl)]
  exact laidMet_laidAll _ (by kernel_rfl) (by kernel_rfl)

def zeros (n : Nat) : Value := .agg (Array.replicate n (.int .u8 0))

/-- The whole walk. -/
theorem walk (A B : Nat → Nat) (hA : ∀ i, A i < 256) (hB : ∀ i, B i < 256) (x0 x1 x2 x3 k p t : Int) (z : Option Addr) (w : World) (hz : w.cell? ⟨0, 0, none⟩ = some (.pointer z)) :
    Calls Tryd.prog 3 #[.agg (idA fun i => (A i : Int)), .int .i64 k, .agg (idA fun i => (B i : Int)), .agg #[.int .u8 x0, .int .u8 x1, .int .u8 x2, .int .u8 x3], .int .u16 p, .int .i64 t] w fun e w' => e = .returned (.bool true) ∧ Below w.heap.size w w' := by
  by_cases h : k < 1 ∨ 2048 < k
  · exact walk_out _ _ _ k p t w h
  · exact walk_in A B hA hB x0 x1 x2 x3 k p t z w hz (by omega) (by omega)

set_option maxRecDepth 100000 in
theorem lifted (os : Os) (started : os.Started) (H : Type) (enc : TypeId × Value → H) :
    ReturnsInHanded {} Tryd.checked os 3 .any (fun w args => (Rows.fnNewTableStartsEmptyAndPlacesFirstContactSpec.pre enc Tryd.prog Tryd.f3 [] false w args ∧ laidMetH Tryd.prog laid1 w) ∧ sizedMet enc Tryd.prog Tryd.f3 (OpenSpec.ofChange Rows.fnNewTableStartsEmptyAndPlacesFirstContactSpec) false w args)
      (Rows.fnNewTableStartsEmptyAndPlacesFirstContactSpec.post enc Tryd.prog Tryd.f3 false true false false) := by
  refine returnsInHanded_of_change_and (C := Tryd.checked) (X := fun w _ => laidMetH Tryd.prog laid1 w) (fun _ _ _ hh h => h.of_heap hh) own started (by kernel_rfl) Tryd.func3
    (ChangeSpec.witness_shaped (enc := enc) (C := Tryd.checked) (os := os) (X := fun w _ => laidMetH Tryd.prog laid1 w) false (World.laidAll Tryd.prog os laid1) #[zeros 20, .int .i64 0, zeros 20, zeros 4, .int .u16 0, .int .i64 0] 8 rfl (World.shaped_of_ZipB (by kernel_rfl) (by kernel_rfl)) (by kernel_rfl) (by kernel_rfl) (by kernel_rfl) (door_met os _)) ?_
  intro W base args ds gs before hval0 hW _ _ hL _
  have hval : ∀ (j : Nat) t v, Tryd.f3.params[j]? = some t → args[j]? = some v → Value.okWide Tryd.prog W .any base t v := hval0
  have hW' := hW
  obtain ⟨p, q, hA0, hV, rfl, hfz, hnd⟩ := hW
  have hA : DataW.TrodAll enc Tryd.prog W 0 (fun _ => true) true Tryd.f3.params.toList args.toList ds p := hA0
  rw [Tryd.params3] at hA hval
  obtain ⟨v0, vs0, d0, ds0, p0, q0, hargs, rfl, rfl, h0, r0⟩ := trodAll_cons hA
  obtain ⟨v1, vs1, d1, ds1, p1, q1, rfl, rfl, rfl, h1, r1⟩ := trodAll_cons r0
  obtain ⟨v2, vs2, d2, ds2, p2, q2, rfl, rfl, rfl, h2, r2⟩ := trodAll_cons r1
  obtain ⟨v3, vs3, d3, ds3, p3, q3, rfl, rfl, rfl, h3, r3⟩ := trodAll_cons r2
  obtain ⟨v4, vs4, d4, ds4, p4, q4, rfl, rfl, rfl, h4, r4⟩ := trodAll_cons r3
  obtain ⟨v5, vs5, d5, ds5, p5, q5, rfl, rfl, rfl, h5, r5⟩ := trodAll_cons r4
  obtain ⟨rfl, rfl, rfl⟩ := trodAll_nil r5
  obtain rfl : args = #[v0, v1, v2, v3, v4, v5] := by cases args; simp_all
  obtain ⟨rfl, rfl⟩ := trodVars_none hV
  have k0 := h0
  have lt0 : ∀ x ∈ p0, x.block < W.heap.size := by obtain ⟨m, hm⟩ := k0; exact DataW.trod_lt m _ _ _ hm
  have k2 := h2
  have lt2 : ∀ x ∈ p2, x.block < W.heap.size := by obtain ⟨m, hm⟩ := k2; exact DataW.trod_lt m _ _ _ hm
  have k3 := h3
  have lt3 : ∀ x ∈ p3, x.block < W.heap.size := by obtain ⟨m, hm⟩ := k3; exact DataW.trod_lt m _ _ _ hm
  obtain ⟨cs0, A, rfl, hs0, hA256, hc0⟩ := open_bytes Tryd.underlying22 (by kernel_rfl) (hval 0 22 v0 rfl rfl) h0
  obtain ⟨a1, rfl, rfl, rfl, w1⟩ := open_int Tryd.underlying3 (hval 1 3 v1 rfl rfl) h1
  obtain ⟨cs2, B, rfl, hs2, hB256, hc2⟩ := open_bytes Tryd.underlying22 (by kernel_rfl) (hval 2 22 v2 rfl rfl) h2
  obtain ⟨cs3, C, rfl, hs3, _, hc3⟩ := open_bytes Tryd.underlying23 (by kernel_rfl) (hval 3 23 v3 rfl rfl) h3
  obtain ⟨a4, rfl, rfl, rfl, w4⟩ := open_int Tryd.underlying24 (hval 4 24 v4 rfl rfl) h4
  obtain ⟨a5, rfl, rfl, rfl, w5⟩ := open_int Tryd.underlying2 (hval 5 2 v5 rfl rfl) h5
  obtain rfl := cs_idA hs0 hc0
  obtain rfl := cs_idA hs2 hc2
  obtain rfl := cs_four hs3 hc3
  obtain ⟨z, hz⟩ := of_laid hL
  clear hA0 hval0
  refine (walk A B hA256 hB256 _ _ _ _ a1 a4 a5 z W hz).mono fun e W' ⟨he, bel⟩ => ?_
  subst he
  exact ⟨_, rfl, _, _, _, [], _, [], hW', trodAll_mk1 (shut_bool Tryd.underlying4 _), (trodAll_cons_mk (Below.trod laidOut (by kernel_rfl) (of_decide_eq_true (by kernel_rfl)) k0 bel lt0) (trodAll_cons_mk (shut_int Tryd.underlying3 w1) (trodAll_cons_mk (Below.trod laidOut (by kernel_rfl) (of_decide_eq_true (by kernel_rfl)) k2 bel lt2) (trodAll_cons_mk (Below.trod laidOut (by kernel_rfl) (of_decide_eq_true (by kernel_rfl)) k3 bel lt3) (trodAll_cons_mk (shut_int Tryd.underlying24 w4) (trodAll_cons_mk (shut_int Tryd.underlying2 w5) trodAll_mk0)))))), rfl, bel.frame _, fun h => by cases h⟩

theorem row_holds : Rows.FnNewTableStartsEmptyAndPlacesFirstContactSaid :=
  OpenClaim.holds_of_wide 3 Tryd.f3 rfl rfl rfl rfl rfl rfl rfl ⟨rfl, rfl, rfl, rfl, rfl⟩ rfl rfl rfl rfl rfl (by kernel_rfl) Tryd.func3 (by kernel_rfl)
    (of_decide_eq_true (by kernel_rfl)) (by unfold Func.isWrapper; first | (rw [if_pos (by decide +kernel)]; kernel_rfl) | (rw [if_neg (by decide +kernel)]; exact ⟨rfl, rfl⟩))
    (fun os started H enc _ => lifted os started H enc)

theorem params_plain (j : Nat) (t : TypeId) (ht : (Tryd.f3.params)[j]? = some t) : Tryd.prog.wantsStandIn t = false := by
  rw [Tryd.params3] at ht
  rcases j with _ | _ | _ | _ | _ | _ | j
  · obtain rfl : (22 : TypeId) = t := by simpa using ht
    kernel_rfl
  · obtain rfl : (3 : TypeId) = t := by simpa using ht
    kernel_rfl
  · obtain rfl : (22 : TypeId) = t := by simpa using ht
    kernel_rfl
  · obtain rfl : (23 : TypeId) = t := by simpa using ht
    kernel_rfl
  · obtain rfl : (24 : TypeId) = t := by simpa using ht
    kernel_rfl
  · obtain rfl : (2 : TypeId) = t := by simpa using ht
    kernel_rfl
  · simp at ht

/-- ████ THE CARD ████ -/
theorem card_holds : Rows.FnNewTableStartsEmptyAndPlacesFirstContactCardSaid :=
  Claim7.holds_tied_plain_at .later [] [.called] true (true, "1d4e58c4a159093103073e323cb036e8aa4d8f1defee4350122e81f2e8857cf2") false
    row_holds (fun _ h => by cases h) (by kernel_rfl) (fun _ h => by cases h) fnNewTableStartsEmptyAndPlacesFirstContact_row_tie rfl ⟨rfl, rfl⟩ (by kernel_rfl) rfl
    (fun f fn hf hfn => by
      obtain rfl : f = 3 := Option.some.inj ((show Tryd.prog.funcNamed Rows.fnNewTableStartsEmptyAndPlacesFirstContactRow.func = some 3 by kernel_rfl).symm.trans hf) |>.symm
      obtain rfl : fn = Tryd.f3 := (Option.some.inj (Tryd.func3.symm.trans hfn)).symm
      exact ⟨by kernel_rfl, params_plain⟩)
    (by kernel_rfl)
end Go.Proofs.Qxb6609384aDoor
