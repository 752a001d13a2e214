import Derived.Test.Qxb6609384aDoorChg
import Derived.Test.Qxb6609384aDoorLook
import Derived.Test.Qxb6609384aDoorGet
namespace Go.Proofs.Qxb6609384aDoor
open Go.RowKit
set_option linter.unusedSimpArgs false

/-- 31 cells: a table's entry. -/
def entA (s : Nat → Int) (l : Int) (z : Option Addr) (p x y : Int) : Array Value := conA s l z p ++ #[.int .u64 x, .int .i64 y, .pointer none, .int .u64 0, .int .i64 0, .pointer none, .int .i64 0]
/-- The zero contact. -/
def zcon : Array Value := conA (fun _ => 0) 0 none 0

theorem bld40z : Tryd.prog.built 40 [] = some zcon := by kernel_rfl
theorem bld63 (s : Nat → Int) (l : Int) (z : Option Addr) (p x y : Int) : Tryd.prog.built 63 [(0, .agg (conA s l z p)), (1, .agg #[.int .u64 x, .int .i64 y, .pointer none])] = some (entA s l z p x y) := by kernel_rfl
theorem bslice (s : Nat → Int) (l : Int) (z : Option Addr) (p x y : Int) (w : World) : (Instr.buildSlice 51 1 #[(0, .agg (entA s l z p x y))]).run Tryd.prog w = .ok (.slice (some ⟨w.heap.size, 0, none⟩) 1 1) (w.alloc (.cells (entA s l z p x y) 63)) := by kernel_rfl
theorem Tryd.info63 : (Tryd.prog.info? 63).map (fun i => (i.size, i.bytes)) = some (31, 112) := by kernel_rfl
theorem Tryd.zero63 : ((Tryd.prog.info? 63).bind (fun i => i.zero)).isSome = true := by kernel_rfl
theorem entA_len (s : Nat → Int) (l : Int) (z : Option Addr) (p x y : Int) : (entA s l z p x y).toList.length = 31 := rfl
theorem entA_con (s : Nat → Int) (l : Int) (z : Option Addr) (p x y : Int) : (entA s l z p x y).toList = (conA s l z p).toList ++ [.int .u64 x, .int .i64 y, .pointer none, .int .u64 0, .int .i64 0, .pointer none, .int .i64 0] := by simp [entA]
theorem conA_id (s : Nat → Int) (l : Int) (z : Option Addr) (p : Int) : (conA s l z p).toList = (idA s).toList ++ [.int .u64 0, .int .u64 l, .pointer z, .int .u16 p] := by simp [conA]
theorem range_left {w : World} {b o : Nat} {cs ds : List Value} (h : w.rangeAt b o (cs ++ ds)) : w.rangeAt b o cs := fun j v hv => h j v (by
  rw [List.getElem?_append_left (List.getElem?_eq_some_iff.1 hv).1]; exact hv)

/-- append(bucket, entry), bucket nil. -/
theorem app63 (s : Nat → Int) (l : Int) (z : Option Addr) (p x y : Int) (w : World) (B : Nat) (hr : w.rangeAt B 0 (entA s l z p x y).toList) :
    ∃ cap Z, (∀ ty, (Builtin.append_ #[51, 51] ty #[.slice none 0 0, .slice (some ⟨B, 0, none⟩) 1 1]).run Tryd.prog w = .ok (.slice (some ⟨w.heap.size, 0, none⟩) 1 cap) (w.drew.alloc (.cells ((entA s l z p x y).toList.toArray ++ Z) 63))) := by
  have h1 := Tryd.info63
  have h2 := Tryd.zero63
  cases hq : Tryd.prog.info? 63 with
  | none => simp [hq] at h1
  | some i =>
    simp only [hq, Option.map_some, Option.some.injEq, Prod.mk.injEq] at h1
    simp only [hq, Option.bind_some] at h2
    obtain ⟨zz, hz⟩ := Option.isSome_iff_exists.1 h2
    have h := fun ty => run_append_nil (P := Tryd.prog) w 51 ty 63 i zz Tryd.underlying51 hq hz ⟨B, 0, none⟩ 1 1 (entA s l z p x y).toList (by rw [entA_len, h1.1]) (fun j v hv => by rw [Addr.add_mid]; exact hr j v hv) (by omega) (by omega) (by rw [h1.2]; omega)
    exact ⟨_, _, h⟩
end Go.Proofs.Qxb6609384aDoor
