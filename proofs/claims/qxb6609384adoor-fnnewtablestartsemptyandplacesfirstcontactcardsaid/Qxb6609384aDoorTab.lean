import Derived.Test.Qxb6609384aDoorTime
import Derived.Laws.Tables
import Derived.Deep.MidRow
namespace Go.Proofs.Qxb6609384aDoor
open Go.RowKit

/-- Twenty cells: an ID. -/
def idA (s : Nat → Int) : Array Value := #[.int .u8 (s 0), .int .u8 (s 1), .int .u8 (s 2), .int .u8 (s 3), .int .u8 (s 4), .int .u8 (s 5), .int .u8 (s 6), .int .u8 (s 7), .int .u8 (s 8), .int .u8 (s 9), .int .u8 (s 10), .int .u8 (s 11), .int .u8 (s 12), .int .u8 (s 13), .int .u8 (s 14), .int .u8 (s 15), .int .u8 (s 16), .int .u8 (s 17), .int .u8 (s 18), .int .u8 (s 19)]
/-- 183 cells: a new table. -/
def tabA (s : Nat → Int) (k : Int) : Array Value := idA s ++ #[.int .i64 k, .int .i64 900000000000] ++ Array.replicate 161 (.slice none 0 0)

theorem bld56 (s : Nat → Int) (k : Int) : Tryd.prog.built 56 [(0, .agg (idA s)), (1, .int .i64 k), (2, .int .i64 900000000000)] = some (tabA s k) := by kernel_rfl

/-- A struct literal, its cells known. -/
theorem wpList_build_is {P : Program} {ops : Array Oper} {rest : List Oper} {o : Oper} {a : Act} {w : World} {Q : Exit → Act → World → Prop} (hgd : o.guard = none) (t : TypeId) (parts : Array (Nat × Operand)) (ho : o.op = .build t parts)
    (ps : List (Nat × Value)) (cells : Array Value) (hc : P.built t ps = some cells) (hp : (parts.map fun (i, x) => (i, a.eval x)).toList = ps) (h : wpList P ops Q rest (a.put o.dst (.agg cells)) w) : wpList P ops Q (o :: rest) a w := by
  refine wpList_plain hgd fun K hK => ?_
  refine wp_build t parts ho (by rw [hp, hc]; rfl) ?_
  rw [hp, hc]
  exact hK _ _ h

theorem Tryd.size27 : (Tryd.prog.info? 27).map (·.size) = some 20 := by kernel_rfl
theorem range_new (w : World) (C : Array Value) (t : TypeId) : (w.alloc (.cells C t)).rangeAt w.heap.size 0 C.toList := fun j v hv => by
  simpa using hv
theorem sz27 (s : Nat → Int) : (Tryd.prog.info? 27).map (·.size) = some (idA s).toList.length := by simpa [idA] using Tryd.size27

theorem newTable_any (s : Nat → Int) (k : Int) (w : World) :
    Calls Tryd.prog 11 #[.agg (idA s), .int .i64 k] w fun e w' => e = .returned (.pointer (some ⟨w.heap.size + 1, 0, none⟩)) ∧ w' = (w.alloc (.cells (idA s) 27)).alloc (.cells (tabA s k) 56) := by
  go_enter Tryd.func11, Tryd.ntmps11
  have tok : True := trivial
  have tok2 : True := trivial
  go_wp2_with (first | (have _t := tok; refine wpList_load_mid (by rfl) 27 (.tmp 2) (by rfl) w.heap.size 0 (by rfl) (idA s).toList _ (range_new _ _ _) Tryd.underlying27 rfl (sz27 s) ?_; clear tok) | (have _t := tok2; refine wpList_build_is (by rfl) 56 #[(0, .tmp 5), (1, .tmp 6), (2, .const (.int .i64 900000000000))] (by rfl) _ (tabA s k) (bld56 s k) (by simp [Act.eval]) ?_; clear tok2))
  go_ret
  exact ⟨rfl, rfl⟩

theorem zzNewTable_any (s : Nat → Int) (k : Int) (w : World) :
    Calls Tryd.prog 4 #[.agg (idA s), .int .i64 k] w fun e w' => ∃ w1 tb, e = .returned (.pointer (some ⟨tb, 0, none⟩)) ∧ tb = w1.heap.size ∧ w' = w1.alloc (.cells (tabA s k) 56) ∧ Below w.heap.size w w1 := by
  go_enter Tryd.func4, Tryd.ntmps4
  have tok : True := trivial
  go_wp2_with (first | (have _t := tok; refine wpList_load_mid (by rfl) 27 (.tmp 2) (by rfl) w.heap.size 0 (by rfl) (idA s).toList _ (range_new _ _ _) Tryd.underlying27 rfl (sz27 s) ?_; clear tok) | (go_at_call 11; refine (newTable_any s k _).mono ?_; rintro e w' ⟨rfl, rfl⟩))
  go_ret
  exact ⟨(w.alloc (.cells (idA s) 27)).alloc (.cells (idA s) 27), _, rfl, by simp, rfl, ((Below.refl _ _).alloc (Nat.le_refl _) _).alloc (by simp) _⟩
end Go.Proofs.Qxb6609384aDoor
