/-
  Seat b3784aD, the plain side: the C types as cells, the table of bases as 'zzs3784abases' lays it, the seven names.
-/
import Derived.Test.YbulkbzioDoorProg
import Derived.WalkKit
namespace Go.Proofs.YbulkbzioDoor
open Go

/-- The four cells of a cType. -/
def cty (l : List UInt8) (bits : Int) (u : Bool) (r : Int) : List Value := [.string { data := l.toArray }, .int .i64 bits, .bool u, .int .i64 r]
/-- The thirteen values by number: 0 the zero value, 1 char, 2 signed char, 3 unsigned char, 4 short, 5 unsigned short, 6 int, 7 unsigned int, 8 long, 9 unsigned long, 10 long long, 11 unsigned long long, 12 _Bool. -/
def tyc : Nat → List Value
  | 1 => cty [99, 104, 97, 114] 8 false 1
  | 2 => cty [115, 105, 103, 110, 101, 100, 32, 99, 104, 97, 114] 8 false 1
  | 3 => cty [117, 110, 115, 105, 103, 110, 101, 100, 32, 99, 104, 97, 114] 8 true 1
  | 4 => cty [115, 104, 111, 114, 116] 16 false 2
  | 5 => cty [117, 110, 115, 105, 103, 110, 101, 100, 32, 115, 104, 111, 114, 116] 16 true 2
  | 6 => cty [105, 110, 116] 32 false 3
  | 7 => cty [117, 110, 115, 105, 103, 110, 101, 100, 32, 105, 110, 116] 32 true 3
  | 8 => cty [108, 111, 110, 103] 64 false 4
  | 9 => cty [117, 110, 115, 105, 103, 110, 101, 100, 32, 108, 111, 110, 103] 64 true 4
  | 10 => cty [108, 111, 110, 103, 32, 108, 111, 110, 103] 64 false 5
  | 11 => cty [117, 110, 115, 105, 103, 110, 101, 100, 32, 108, 111, 110, 103, 32, 108, 111, 110, 103] 64 true 5
  | 12 => cty [95, 66, 111, 111, 108] 1 true 0
  | _ => cty [] 0 false 0
/-- Of base k: the counts of char, short, int, long, _Bool. -/
def bk : Nat → List Nat
  | 0 => [1, 0, 0, 0, 0]
  | 1 => [0, 1, 0, 0, 0]
  | 2 => [0, 1, 1, 0, 0]
  | 3 => [0, 0, 1, 0, 0]
  | 4 => [0, 0, 0, 0, 0]
  | 5 => [0, 0, 0, 1, 0]
  | 6 => [0, 0, 1, 1, 0]
  | 7 => [0, 0, 0, 2, 0]
  | 8 => [0, 0, 1, 2, 0]
  | _ => [0, 0, 0, 0, 1]
/-- Of base k: the types' numbers with no sign word, with signed, with unsigned. -/
def bt : Nat → List Nat
  | 0 => [1, 2, 3]
  | 1 => [4, 4, 5]
  | 2 => [4, 4, 5]
  | 3 => [6, 6, 7]
  | 4 => [0, 6, 7]
  | 5 => [8, 8, 9]
  | 6 => [8, 8, 9]
  | 7 => [10, 10, 11]
  | 8 => [10, 10, 11]
  | _ => [12, 0, 0]
def bok : Nat → List Bool
  | 4 => [false, true, true]
  | 9 => [true, false, false]
  | _ => [true, true, true]
/-- The twenty cells of base k. -/
def row (k : Nat) : List Value := (bk k).map (fun n => .int .i64 n) ++ (bt k).flatMap tyc ++ (bok k).map .bool
def BASES : Array Value := ((List.range 10).flatMap row).toArray

def nameB : Nat → List UInt8
  | 0 => [115, 105, 103, 110, 101, 100]
  | 1 => [117, 110, 115, 105, 103, 110, 101, 100]
  | 2 => [99, 104, 97, 114]
  | 3 => [115, 104, 111, 114, 116]
  | 4 => [105, 110, 116]
  | 5 => [108, 111, 110, 103]
  | _ => [95, 66, 111, 111, 108]
def nm (k : Nat) : ByteArray := { data := (nameB k).toArray }
def NAMES : Array Value := #[.string (nm 0), .string (nm 1), .string (nm 2), .string (nm 3), .string (nm 4), .string (nm 5), .string (nm 6)]
end Go.Proofs.YbulkbzioDoor
