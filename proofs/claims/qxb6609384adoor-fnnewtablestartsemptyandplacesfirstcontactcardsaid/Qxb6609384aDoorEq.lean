import Derived.Test.Qxb6609384aDoorLz
import Derived.Test.Qxb6609384aDoorCon
import Derived.Laws.StructEq
import Derived.ChangeKeysEq
namespace Go.Proofs.Qxb6609384aDoor
open Go.RowKit
set_option linter.unusedSimpArgs false

theorem part5 (s : Nat → Int) (j : Nat) (hj : j < 20) (w : World) : (part 5 (idA s) j).run Tryd.prog w = .ok (.int .u8 (s j)) w := by
  simp [part, isAgg, run_underlying Tryd.underlying5, idA_get s j hj]
theorem Tryd.cells5 : Tryd.prog.cellsOf 5 = 1 := by kernel_rfl
theorem items_same (s : Nat → Int) (d : Nat) (w : World) : ∀ is : List Nat, (∀ j ∈ is, j < 20) → (Op.eqItems (d + 1) 5 1 (idA s) (idA s) is).run Tryd.prog w = .ok true w
  | [], _ => by simp [Op.eqItems]
  | j :: is, h => by
    have hj := part5 s j (h j (by simp)) w
    have he := run_equalIn_int (P := Tryd.prog) w d 5 .u8 .u8 (s j) (s j) Tryd.underlying5
    have ih := items_same s d w is (fun k hk => h k (by simp [hk]))
    simp [Op.eqItems, hj, he, ih]
theorem eq27 (s : Nat → Int) (d : Nat) (w : World) : (Op.equalIn (d + 2) 27 (.agg (idA s)) (.agg (idA s))).run Tryd.prog w = .ok true w := by
  cases hq : Tryd.prog.info? 5 with
  | none => have := Tryd.size5; simp [hq] at this
  | some i =>
    rw [run_equalIn_array w (d + 1) (idA s) (idA s) Tryd.underlying27 hq, Tryd.cells5]
    exact items_same s d w _ (fun j hj => by simpa using hj)

theorem part27 (s : Nat → Int) (l : Int) (z : Option Addr) (p : Int) (w : World) : (part 27 (conA s l z p) 0).run Tryd.prog w = .ok (.agg (idA s)) w := by kernel_rfl
theorem part38 (s : Nat → Int) (l : Int) (z : Option Addr) (p : Int) (w : World) : (part 38 (conA s l z p) 20).run Tryd.prog w = .ok (.agg #[.int .u64 0, .int .u64 l, .pointer z, .int .u16 p]) w := by kernel_rfl
theorem part36 (l : Int) (z : Option Addr) (p : Int) (w : World) : (part 36 #[.int .u64 0, .int .u64 l, .pointer z, .int .u16 p] 0).run Tryd.prog w = .ok (.agg #[.int .u64 0, .int .u64 l, .pointer z]) w := by kernel_rfl
theorem part24 (l : Int) (z : Option Addr) (p : Int) (w : World) : (part 24 #[.int .u64 0, .int .u64 l, .pointer z, .int .u16 p] 3).run Tryd.prog w = .ok (.int .u16 p) w := by kernel_rfl
theorem part31 (l : Int) (z : Option Addr) (w : World) : (part 31 #[.int .u64 0, .int .u64 l, .pointer z] 0).run Tryd.prog w = .ok (.agg #[.int .u64 0, .int .u64 l]) w := by kernel_rfl
theorem part34 (l : Int) (z : Option Addr) (w : World) : (part 34 #[.int .u64 0, .int .u64 l, .pointer z] 2).run Tryd.prog w = .ok (.agg #[.pointer z]) w := by kernel_rfl
theorem part29a (l : Int) (w : World) : (part 29 #[.int .u64 0, .int .u64 l] 0).run Tryd.prog w = .ok (.int .u64 0) w := by kernel_rfl
theorem part29b (l : Int) (w : World) : (part 29 #[.int .u64 0, .int .u64 l] 1).run Tryd.prog w = .ok (.int .u64 l) w := by kernel_rfl
theorem part32 (z : Option Addr) (w : World) : (part 32 #[.pointer z] 0).run Tryd.prog w = .ok (.pointer z) w := by kernel_rfl

theorem eqn (t : TypeId) (fs : Array Field) (hu : Tryd.prog.underlying t = some (.struct fs)) (hp : Tryd.prog.stoodInHeld t = false) (d : Nat) (X : Array Value) (w : World) (h : (Op.eqFields d X X fs.toList).run Tryd.prog w = .ok true w) :
    (Op.equalIn (d + 1) t (.agg X) (.agg X)).run Tryd.prog w = .ok true w := by
  have hf : Tryd.prog.fieldsOf t = fs := by simp [Program.fieldsOf, hu]
  rw [run_equalIn_struct w d t X X (by rw [hf]; exact hu) hp, hf]
  exact h

theorem Tryd.ptr32 : ∃ e, Tryd.prog.underlying 32 = some (.pointer e) ∧ ∃ n, (Tryd.prog.info? e).map (·.size) = some (n + 1) := ⟨_, Tryd.underlying32, 1, by kernel_rfl⟩
theorem eq32 (z : Option Addr) (d : Nat) (w : World) : (Op.equalIn (d + 1) 32 (.pointer z) (.pointer z)).run Tryd.prog w = .ok true w := by
  obtain ⟨e, hu, n, hn⟩ := Tryd.ptr32
  cases hq : Tryd.prog.info? e with
  | none => simp [hq] at hn
  | some i =>
    have hs : i.size = n + 1 := by simpa [hq] using hn
    cases z with
    | none => simp [Op.equalIn, run_underlying hu]
    | some a => simp [Op.equalIn, run_underlying hu, sizeOf, typeInfo, hq, hs, sameAddr]
theorem eq34 (z : Option Addr) (d : Nat) (w : World) : (Op.equalIn (d + 2) 34 (.agg #[.pointer z]) (.agg #[.pointer z])).run Tryd.prog w = .ok true w := by
  refine eqn 34 _ Tryd.underlying34 (by kernel_rfl) (d + 1) _ w ?_
  simp [Op.eqFields, part32, eq32]
theorem eq31 (l : Int) (d : Nat) (w : World) : (Op.equalIn (d + 2) 31 (.agg #[.int .u64 0, .int .u64 l]) (.agg #[.int .u64 0, .int .u64 l])).run Tryd.prog w = .ok true w := by
  refine eqn 31 _ Tryd.underlying31 (by kernel_rfl) (d + 1) _ w ?_
  have he := fun a => run_equalIn_int (P := Tryd.prog) w d 29 .u64 .u64 a a Tryd.underlying29
  simp [Op.eqFields, part29a, part29b, he]
theorem eq36 (l : Int) (z : Option Addr) (d : Nat) (w : World) : (Op.equalIn (d + 3) 36 (.agg #[.int .u64 0, .int .u64 l, .pointer z]) (.agg #[.int .u64 0, .int .u64 l, .pointer z])).run Tryd.prog w = .ok true w := by
  refine eqn 36 _ Tryd.underlying36 (by kernel_rfl) (d + 2) _ w ?_
  simp [Op.eqFields, part31, part34, eq31, eq34]
theorem eq38 (l : Int) (z : Option Addr) (p : Int) (d : Nat) (w : World) : (Op.equalIn (d + 4) 38 (.agg #[.int .u64 0, .int .u64 l, .pointer z, .int .u16 p]) (.agg #[.int .u64 0, .int .u64 l, .pointer z, .int .u16 p])).run Tryd.prog w = .ok true w := by
  refine eqn 38 _ Tryd.underlying38 (by kernel_rfl) (d + 3) _ w ?_
  have he := run_equalIn_int (P := Tryd.prog) w (d + 2) 24 .u16 .u16 p p Tryd.underlying24
  simp [Op.eqFields, part36, part24, eq36, he]
theorem eq40 (s : Nat → Int) (l : Int) (z : Option Addr) (p : Int) (d : Nat) (w : World) : (Op.equalIn (d + 5) 40 (.agg (conA s l z p)) (.agg (conA s l z p))).run Tryd.prog w = .ok true w := by
  refine eqn 40 _ Tryd.underlying40 (by kernel_rfl) (d + 4) _ w ?_
  have h27 := eq27 s (d + 2) w
  simp [Op.eqFields, part27, part38, eq38, h27]
theorem neq40 (s : Nat → Int) (l : Int) (z : Option Addr) (p : Int) (w : World) : (binOp .neq 40 (.agg (conA s l z p)) (.agg (conA s l z p))).run Tryd.prog w = .ok (.bool false) w := by
  rw [run_neq_struct w 40]
  rw [eq40 s l z p 9995 w]
  rfl
theorem guard40 : Tryd.prog.eqGuardType Tryd.prog.depth 40 = false := by kernel_rfl
/-- The operation 'x != y' at two contacts that are one. -/
theorem exec_neq40 {o : Oper} {ρ : Operand → Value} (x y : Operand) (ty : TypeId) (ho : o.op = .binOp .neq 40 x y ty) (s : Nat → Int) (l : Int) (z : Option Addr) (p : Int) (hx : ρ x = .agg (conA s l z p)) (hy : ρ y = .agg (conA s l z p)) (w : World) : (execOp ρ o).run Tryd.prog w = .ok (.value (.bool false)) w := by
  unfold execOp
  simp only [ho, hx, hy, Sem.run_bind, run_eqGuard_agg w .neq 40 x y _ _ guard40, Result.andThen_ok, neq40, Sem.run_pure]
end Go.Proofs.Qxb6609384aDoor
