/-
  Seat b4039a: a token and a statement equal themselves.
-/
import Derived.Test.YbulkcepwKey
import Derived.Laws.StructEq
import Derived.Laws.Pointers
import Derived.LaidEql
namespace Go.Proofs.Ybulkcepw
open Go.RowKit

theorem eq_nil (d : Nat) (t e : TypeId) (w : World) (hu : Yba.prog.underlying t = some (.pointer e)) : (Op.equalIn (d + 1) t (.pointer none) (.pointer none)).run Yba.prog w = .ok true w := by
  simp [Op.equalIn, run_underlying hu]
theorem eq_ptr (d : Nat) (t e : TypeId) (n : Nat) (a : Option Addr) (w : World) (hu : Yba.prog.underlying t = some (.pointer e)) (hz : (sizeOf e).run Yba.prog w = .ok (n + 1) w) : (Op.equalIn (d + 1) t (.pointer a) (.pointer a)).run Yba.prog w = .ok true w := by
  cases a with
  | none => exact eq_nil d t e w hu
  | some a => simp [Op.equalIn, run_underlying hu, hz, run_sameAddr_same]

theorem eq27 (d : Nat) (s : ByteArray) (k : Int) (w : World) : (Op.equalIn (d + 1 + 1) 27 (.agg #[.string s, .pointer none, .int .i32 0, .int .u8 k]) (.agg #[.string s, .pointer none, .int .i32 0, .int .u8 k])).run Yba.prog w = .ok true w := by
  have hS : Yba.prog.underlying 27 = some (.struct (Yba.prog.fieldsOf 27)) := by kernel_rfl
  have hp : Yba.prog.stoodInHeld 27 = false := by kernel_rfl
  have e1 := eq_nil d 24 _ w Yba.underlying24
  have u9 := Yba.underlying9
  have u21 := Yba.underlying21
  have u25 := Yba.underlying25
  rw [run_equalIn_agg w (d + 1) 27 _ _ hS hp]
  simp only [Program.fieldsOf, Yba.underlying27]
  go_simp

theorem eq31 (s : ByteArray) (k : Int) (v : Option Addr) (w : World) : (Op.equalIn 10000 31 (.agg #[.string s, .pointer none, .int .i32 0, .int .u8 k, .pointer v, .pointer none]) (.agg #[.string s, .pointer none, .int .i32 0, .int .u8 k, .pointer v, .pointer none])).run Yba.prog w = .ok true w := by
  have hS : Yba.prog.underlying 31 = some (.struct (Yba.prog.fieldsOf 31)) := by kernel_rfl
  have hp : Yba.prog.stoodInHeld 31 = false := by kernel_rfl
  have e0 := eq27 9997 s k w
  have e1 := eq_ptr 9998 28 47 6 v w Yba.underlying28 (Yba.sizeOf47 w)
  have e2 := eq_nil 9998 29 _ w Yba.underlying29
  rw [show (10000 : Nat) = 9999 + 1 from rfl, run_equalIn_agg w 9999 31 _ _ hS hp]
  simp only [Program.fieldsOf, Yba.underlying31]
  have p0 : (part 27 #[.string s, .pointer none, .int .i32 0, .int .u8 k, .pointer v, .pointer none] 0).run Yba.prog w = .ok (.agg #[.string s, .pointer none, .int .i32 0, .int .u8 k]) w := by
    simp [part, Yba.isAgg27, Yba.sizeOf27]
  have p1 : (part 28 #[.string s, .pointer none, .int .i32 0, .int .u8 k, .pointer v, .pointer none] 4).run Yba.prog w = .ok (.pointer v) w := by
    simp [part, Yba.isAgg28]
  have p2 : (part 29 #[.string s, .pointer none, .int .i32 0, .int .u8 k, .pointer v, .pointer none] 5).run Yba.prog w = .ok (.pointer none) w := by
    simp [part, Yba.isAgg29]
  simp [Op.eqFields, p0, p1, p2, e0, e1, e2]
theorem eql27 (s : ByteArray) (k : Int) (w : World) : (binOp .eql 27 (.agg #[.string s, .pointer none, .int .i32 0, .int .u8 k]) (.agg #[.string s, .pointer none, .int .i32 0, .int .u8 k])).run Yba.prog w = .ok (.bool true) w := by
  rw [run_eql_struct, show (10000 : Nat) = 9998 + 1 + 1 from rfl, eq27 9998 s k w]; rfl
theorem eql31 (s : ByteArray) (k : Int) (v : Option Addr) (w : World) : (binOp .eql 31 (.agg #[.string s, .pointer none, .int .i32 0, .int .u8 k, .pointer v, .pointer none]) (.agg #[.string s, .pointer none, .int .i32 0, .int .u8 k, .pointer v, .pointer none])).run Yba.prog w = .ok (.bool true) w := by
  rw [run_eql_struct, eq31 s k v w]; rfl
theorem eql28 (a : Addr) (w : World) : (binOp .eql 28 (.pointer (some a)) (.pointer (some a))).run Yba.prog w = .ok (.bool true) w := by
  have e1 := eq_ptr 9999 28 47 6 (some a) w Yba.underlying28 (Yba.sizeOf47 w)
  simp only [binOp]
  simp [Op.equal, Op.maxDepth, e1]
theorem noGuard27 : Yba.prog.eqGuardType Yba.prog.depth 27 = false := by kernel_rfl
theorem noGuard31 : Yba.prog.eqGuardType Yba.prog.depth 31 = false := by kernel_rfl
end Go.Proofs.Ybulkcepw
