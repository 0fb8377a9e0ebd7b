/-
  STRUCTS BUILT, BY ONE EQUATION EACH.
-/
import Derived.Test.Qxb6601491aNgD
import Derived.Laws.Tables
namespace Go.Proofs.Qxb6601491a
open Go.RowKit
open Go.Extern.Stop (cell)

/-- A struct literal, a slice literal, by name: what the walk's rules do not open. -/
def vbd (t : TypeId) (parts : Array (Nat × Value)) : Sem Value := Instr.build t parts
def vbs (t : TypeId) (n : Nat) (parts : Array (Nat × Value)) : Sem Value := Instr.buildSlice t n parts
theorem bd37 (p : Array (Nat × Value)) : Instr.build 37 p = vbd 37 p := rfl
theorem bd46 (p : Array (Nat × Value)) : Instr.build 46 p = vbd 46 p := rfl
theorem bd48 (p : Array (Nat × Value)) : Instr.build 48 p = vbd 48 p := rfl
theorem bs25 (n : Nat) (p : Array (Nat × Value)) : Instr.buildSlice 25 n p = vbs 25 n p := rfl

theorem built37' (x0 x1 x2 x3 x4 x5 x6 x7 x8 x9 x10 x11 x12 x13 x14 x15 x16 x17 x18 x19 : UInt8) (s : ByteArray) (a : Option Addr) (n c : Nat) : Try.prog.built 37 [(0, addrV [x0, x1, x2, x3, x4, x5, x6, x7, x8, x9, x10, x11, x12, x13, x14, x15, x16, x17, x18, x19]), (1, .string s), (2, .slice a n c)] = some ([x0, x1, x2, x3, x4, x5, x6, x7, x8, x9, x10, x11, x12, x13, x14, x15, x16, x17, x18, x19].map cell ++ [Value.string s, .slice a n c]).toArray := by kernel_rfl
theorem built37 (xs : List UInt8) (hl : xs.length = 20) (s : ByteArray) (a : Option Addr) (n c : Nat) : Try.prog.built 37 [(0, addrV xs), (1, .string s), (2, .slice a n c)] = some (xs.map cell ++ [Value.string s, .slice a n c]).toArray := by
  match xs, hl with
  | [x0, x1, x2, x3, x4, x5, x6, x7, x8, x9, x10, x11, x12, x13, x14, x15, x16, x17, x18, x19], _ => exact built37' x0 x1 x2 x3 x4 x5 x6 x7 x8 x9 x10 x11 x12 x13 x14 x15 x16 x17 x18 x19 s a n c
theorem built48' (x0 x1 x2 x3 x4 x5 x6 x7 x8 x9 x10 x11 x12 x13 x14 x15 x16 x17 x18 x19 : UInt8) (s : ByteArray) (a : Option Addr) (n c : Nat) : Try.prog.built 48 [(0, addrV [x0, x1, x2, x3, x4, x5, x6, x7, x8, x9, x10, x11, x12, x13, x14, x15, x16, x17, x18, x19]), (1, .string s), (2, .slice a n c)] = some ([x0, x1, x2, x3, x4, x5, x6, x7, x8, x9, x10, x11, x12, x13, x14, x15, x16, x17, x18, x19].map cell ++ [Value.string s, .slice a n c]).toArray := by kernel_rfl
theorem built48 (xs : List UInt8) (hl : xs.length = 20) (s : ByteArray) (a : Option Addr) (n c : Nat) : Try.prog.built 48 [(0, addrV xs), (1, .string s), (2, .slice a n c)] = some (xs.map cell ++ [Value.string s, .slice a n c]).toArray := by
  match xs, hl with
  | [x0, x1, x2, x3, x4, x5, x6, x7, x8, x9, x10, x11, x12, x13, x14, x15, x16, x17, x18, x19], _ => exact built48' x0 x1 x2 x3 x4 x5 x6 x7 x8 x9 x10 x11 x12 x13 x14 x15 x16 x17 x18 x19 s a n c
theorem built46' (x0 x1 x2 x3 x4 x5 x6 x7 x8 x9 x10 x11 x12 x13 x14 x15 x16 x17 x18 x19 : UInt8) (l : Int) (b : Bool) : Try.prog.built 46 [(0, addrV [x0, x1, x2, x3, x4, x5, x6, x7, x8, x9, x10, x11, x12, x13, x14, x15, x16, x17, x18, x19]), (1, .int .u8 l), (2, .bool b)] = some ([x0, x1, x2, x3, x4, x5, x6, x7, x8, x9, x10, x11, x12, x13, x14, x15, x16, x17, x18, x19].map cell ++ [Value.int .u8 l, .bool b]).toArray := by kernel_rfl
theorem built46 (xs : List UInt8) (hl : xs.length = 20) (l : Int) (b : Bool) : Try.prog.built 46 [(0, addrV xs), (1, .int .u8 l), (2, .bool b)] = some (xs.map cell ++ [Value.int .u8 l, .bool b]).toArray := by
  match xs, hl with
  | [x0, x1, x2, x3, x4, x5, x6, x7, x8, x9, x10, x11, x12, x13, x14, x15, x16, x17, x18, x19], _ => exact built46' x0 x1 x2 x3 x4 x5 x6 x7 x8 x9 x10 x11 x12 x13 x14 x15 x16 x17 x18 x19 l b

theorem build37 (d : NodeD) (hl : d.addr.length = 20) (a : Option Addr) (n c : Nat) (w : World) : (vbd 37 #[(0, addrV d.addr), (1, .string d.tr), (2, .slice a n c)]).run Try.prog w = .ok (aggV (nodeCells d (.slice a n c))) w :=
  run_build w 37 _ _ (built37 d.addr hl d.tr a n c)
theorem build48 (d : NodeD) (hl : d.addr.length = 20) (a : Option Addr) (n c : Nat) (w : World) : (vbd 48 #[(0, addrV d.addr), (1, .string d.tr), (2, .slice a n c)]).run Try.prog w = .ok (aggV (nodeCells d (.slice a n c))) w :=
  run_build w 48 _ _ (built48 d.addr hl d.tr a n c)
theorem build46 (e : EdgeD) (hl : e.addr.length = 20) (w : World) : (vbd 46 #[(0, addrV e.addr), (1, .int .u8 e.label), (2, .bool e.init)]).run Try.prog w = .ok (aggV (edgeCells e)) w :=
  run_build w 46 _ _ (built46 e.addr hl e.label e.init)
end Go.Proofs.Qxb6601491a
