/-
  The big-endian readers of 16, 32 and 64 bits; over a row that holds the bytes.
-/
import Derived.Test.YtbgckolcimlofaaGreatDoorProg
import Derived.Test.YtbgckolcimlofaaGreatDoorT07
import Derived.Deep.QuietTactic
import Derived.BigQuiet
import Derived.Handy
import Derived.Deep.RegionHeld3
set_option linter.unusedVariables false
set_option linter.unusedSimpArgs false
namespace Go.Proofs.YtbgckolcimlofaaGreatDoor
open Go.RowKit YtbgckolcimlofaaGreatDoorPj
theorem orv {k : IntKind} {x y : Int} (a b s : Nat) (hx : x = k.wrap (a : Int)) (hy : y = k.wrap (b : Int)) (ha : a % 2 ^ s = 0) (hb : b < 2 ^ s) : bits .or k x y = k.wrap ((a + b : Nat) : Int) := by
  subst hx hy
  exact or_wrap k s a b ha hb
theorem bits_or_comm (k : IntKind) (x y : Int) : bits .or k x y = bits .or k y x := by
  unfold bits
  simp only
  rw [BitVec.or_comm]
theorem orr {k : IntKind} {x y : Int} (a b s : Nat) (hx : x = k.wrap (a : Int)) (hy : y = k.wrap (b : Int)) (ha : a < 2 ^ s) (hb : b % 2 ^ s = 0) : bits .or k x y = k.wrap ((a + b : Nat) : Int) := by
  rw [bits_or_comm, Nat.add_comm]
  exact orv b a s hy hx hb ha

set_option maxRecDepth 100000 in
set_option maxHeartbeats 1000000 in
theorem getMint8 (g o n cap : Nat) (w : World) (b1 : Nat) (hb1 : b1 < 256) (hn : 2 ≤ n) (hn2 : n ≤ 100) (c1 : w.cell? ⟨g, o + 1, none⟩ = some (.int .u8 (b1 : Nat))) :
    Calls Tryz.prog 111 #[.slice (some ⟨g, o, none⟩) n cap] w (fun e w' => e = .returned (.int .i8 (IntKind.i8.wrap ((b1 : Nat) : Int))) ∧ Only (fun _ => False) w w') := by
  go_enter Tryz.func111, Tryz.ntmps111
  go_wp2
  go_ret
  refine ⟨congrArg Ending.returned (congrArg (Value.int .i8) ?_), by simp⟩
  first
    | rfl
    | exact (by first | (simp [IntKind.wrap, IntKind.bits, IntKind.signed]; omega) | (unfold wrap32; simp [IntKind.wrap, IntKind.bits, IntKind.signed]; done) | (unfold wrap64; simp [IntKind.wrap, IntKind.bits, IntKind.signed]; done) | (unfold wrap32; simp [IntKind.wrap, IntKind.bits, IntKind.signed]; split <;> omega) | (unfold wrap64; simp [IntKind.wrap, IntKind.bits, IntKind.signed]; split <;> omega) | simp [IntKind.wrap, IntKind.bits, IntKind.signed])

set_option maxRecDepth 100000 in
set_option maxHeartbeats 1000000 in
theorem getMuint8 (g o n cap : Nat) (w : World) (b1 : Nat) (hb1 : b1 < 256) (hn : 2 ≤ n) (hn2 : n ≤ 100) (c1 : w.cell? ⟨g, o + 1, none⟩ = some (.int .u8 (b1 : Nat))) :
    Calls Tryz.prog 112 #[.slice (some ⟨g, o, none⟩) n cap] w (fun e w' => e = .returned (.int .u8 (IntKind.u8.wrap ((b1 : Nat) : Int))) ∧ Only (fun _ => False) w w') := by
  go_enter Tryz.func112, Tryz.ntmps112
  go_wp2
  go_ret
  refine ⟨congrArg Ending.returned (congrArg (Value.int .u8) ?_), by simp⟩
  first
    | rfl
    | exact (by first | (simp [IntKind.wrap, IntKind.bits, IntKind.signed]; omega) | (unfold wrap32; simp [IntKind.wrap, IntKind.bits, IntKind.signed]; done) | (unfold wrap64; simp [IntKind.wrap, IntKind.bits, IntKind.signed]; done) | (unfold wrap32; simp [IntKind.wrap, IntKind.bits, IntKind.signed]; split <;> omega) | (unfold wrap64; simp [IntKind.wrap, IntKind.bits, IntKind.signed]; split <;> omega) | simp [IntKind.wrap, IntKind.bits, IntKind.signed])

set_option maxRecDepth 100000 in
set_option maxHeartbeats 1000000 in
theorem getMint16 (g o n cap : Nat) (w : World) (b1 b2 : Nat) (hb1 : b1 < 256) (hb2 : b2 < 256) (hn : 3 ≤ n) (hn2 : n ≤ 100) (c1 : w.cell? ⟨g, o + 1, none⟩ = some (.int .u8 (b1 : Nat))) (c2 : w.cell? ⟨g, o + 2, none⟩ = some (.int .u8 (b2 : Nat))) :
    Calls Tryz.prog 113 #[.slice (some ⟨g, o, none⟩) n cap] w (fun e w' => e = .returned (.int .i16 (IntKind.i16.wrap ((b1 * 256 + b2 : Nat) : Int))) ∧ Only (fun _ => False) w w') := by
  go_enter Tryz.func113, Tryz.ntmps113
  go_wp2
  go_quiet (fail)
  go_wp2
  go_ret
  refine ⟨congrArg Ending.returned (congrArg (Value.int .i16) ?_), by simp⟩
  exact (orv (b1 * 256) (b2) 8 (by first | (simp [IntKind.wrap, IntKind.bits, IntKind.signed]; omega) | (unfold wrap32; simp [IntKind.wrap, IntKind.bits, IntKind.signed]; done) | (unfold wrap64; simp [IntKind.wrap, IntKind.bits, IntKind.signed]; done) | (unfold wrap32; simp [IntKind.wrap, IntKind.bits, IntKind.signed]; split <;> omega) | (unfold wrap64; simp [IntKind.wrap, IntKind.bits, IntKind.signed]; split <;> omega) | simp [IntKind.wrap, IntKind.bits, IntKind.signed]) (by first | (simp [IntKind.wrap, IntKind.bits, IntKind.signed]; omega) | (unfold wrap32; simp [IntKind.wrap, IntKind.bits, IntKind.signed]; done) | (unfold wrap64; simp [IntKind.wrap, IntKind.bits, IntKind.signed]; done) | (unfold wrap32; simp [IntKind.wrap, IntKind.bits, IntKind.signed]; split <;> omega) | (unfold wrap64; simp [IntKind.wrap, IntKind.bits, IntKind.signed]; split <;> omega) | simp [IntKind.wrap, IntKind.bits, IntKind.signed]) (by omega) (by omega))

set_option maxRecDepth 100000 in
set_option maxHeartbeats 1000000 in
theorem getMuint16 (g o n cap : Nat) (w : World) (b1 b2 : Nat) (hb1 : b1 < 256) (hb2 : b2 < 256) (hn : 3 ≤ n) (hn2 : n ≤ 100) (c1 : w.cell? ⟨g, o + 1, none⟩ = some (.int .u8 (b1 : Nat))) (c2 : w.cell? ⟨g, o + 2, none⟩ = some (.int .u8 (b2 : Nat))) :
    Calls Tryz.prog 114 #[.slice (some ⟨g, o, none⟩) n cap] w (fun e w' => e = .returned (.int .u16 (IntKind.u16.wrap ((b1 * 256 + b2 : Nat) : Int))) ∧ Only (fun _ => False) w w') := by
  go_enter Tryz.func114, Tryz.ntmps114
  go_wp2
  go_quiet (fail)
  go_wp2
  go_ret
  refine ⟨congrArg Ending.returned (congrArg (Value.int .u16) ?_), by simp⟩
  exact (orv (b1 * 256) (b2) 8 (by first | (simp [IntKind.wrap, IntKind.bits, IntKind.signed]; omega) | (unfold wrap32; simp [IntKind.wrap, IntKind.bits, IntKind.signed]; done) | (unfold wrap64; simp [IntKind.wrap, IntKind.bits, IntKind.signed]; done) | (unfold wrap32; simp [IntKind.wrap, IntKind.bits, IntKind.signed]; split <;> omega) | (unfold wrap64; simp [IntKind.wrap, IntKind.bits, IntKind.signed]; split <;> omega) | simp [IntKind.wrap, IntKind.bits, IntKind.signed]) (by first | (simp [IntKind.wrap, IntKind.bits, IntKind.signed]; omega) | (unfold wrap32; simp [IntKind.wrap, IntKind.bits, IntKind.signed]; done) | (unfold wrap64; simp [IntKind.wrap, IntKind.bits, IntKind.signed]; done) | (unfold wrap32; simp [IntKind.wrap, IntKind.bits, IntKind.signed]; split <;> omega) | (unfold wrap64; simp [IntKind.wrap, IntKind.bits, IntKind.signed]; split <;> omega) | simp [IntKind.wrap, IntKind.bits, IntKind.signed]) (by omega) (by omega))

set_option maxRecDepth 100000 in
set_option maxHeartbeats 1000000 in
theorem getMint32 (g o n cap : Nat) (w : World) (b1 b2 b3 b4 : Nat) (hb1 : b1 < 256) (hb2 : b2 < 256) (hb3 : b3 < 256) (hb4 : b4 < 256) (hn : 5 ≤ n) (hn2 : n ≤ 100) (c1 : w.cell? ⟨g, o + 1, none⟩ = some (.int .u8 (b1 : Nat))) (c2 : w.cell? ⟨g, o + 2, none⟩ = some (.int .u8 (b2 : Nat))) (c3 : w.cell? ⟨g, o + 3, none⟩ = some (.int .u8 (b3 : Nat))) (c4 : w.cell? ⟨g, o + 4, none⟩ = some (.int .u8 (b4 : Nat))) :
    Calls Tryz.prog 115 #[.slice (some ⟨g, o, none⟩) n cap] w (fun e w' => e = .returned (.int .i32 (IntKind.i32.wrap ((b1 * 16777216 + b2 * 65536 + b3 * 256 + b4 : Nat) : Int))) ∧ Only (fun _ => False) w w') := by
  go_enter Tryz.func115, Tryz.ntmps115
  go_wp2
  go_quiet (fail)
  go_wp2
  go_ret
  refine ⟨congrArg Ending.returned (congrArg (Value.int .i32) ?_), by simp⟩
  exact (orv (b1 * 16777216 + b2 * 65536 + b3 * 256) (b4) 8 (orv (b1 * 16777216 + b2 * 65536) (b3 * 256) 16 (orv (b1 * 16777216) (b2 * 65536) 24 (by first | (simp [IntKind.wrap, IntKind.bits, IntKind.signed]; omega) | (unfold wrap32; simp [IntKind.wrap, IntKind.bits, IntKind.signed]; done) | (unfold wrap64; simp [IntKind.wrap, IntKind.bits, IntKind.signed]; done) | (unfold wrap32; simp [IntKind.wrap, IntKind.bits, IntKind.signed]; split <;> omega) | (unfold wrap64; simp [IntKind.wrap, IntKind.bits, IntKind.signed]; split <;> omega) | simp [IntKind.wrap, IntKind.bits, IntKind.signed]) (by first | (simp [IntKind.wrap, IntKind.bits, IntKind.signed]; omega) | (unfold wrap32; simp [IntKind.wrap, IntKind.bits, IntKind.signed]; done) | (unfold wrap64; simp [IntKind.wrap, IntKind.bits, IntKind.signed]; done) | (unfold wrap32; simp [IntKind.wrap, IntKind.bits, IntKind.signed]; split <;> omega) | (unfold wrap64; simp [IntKind.wrap, IntKind.bits, IntKind.signed]; split <;> omega) | simp [IntKind.wrap, IntKind.bits, IntKind.signed]) (by omega) (by omega)) (by first | (simp [IntKind.wrap, IntKind.bits, IntKind.signed]; omega) | (unfold wrap32; simp [IntKind.wrap, IntKind.bits, IntKind.signed]; done) | (unfold wrap64; simp [IntKind.wrap, IntKind.bits, IntKind.signed]; done) | (unfold wrap32; simp [IntKind.wrap, IntKind.bits, IntKind.signed]; split <;> omega) | (unfold wrap64; simp [IntKind.wrap, IntKind.bits, IntKind.signed]; split <;> omega) | simp [IntKind.wrap, IntKind.bits, IntKind.signed]) (by omega) (by omega)) (by first | (simp [IntKind.wrap, IntKind.bits, IntKind.signed]; omega) | (unfold wrap32; simp [IntKind.wrap, IntKind.bits, IntKind.signed]; done) | (unfold wrap64; simp [IntKind.wrap, IntKind.bits, IntKind.signed]; done) | (unfold wrap32; simp [IntKind.wrap, IntKind.bits, IntKind.signed]; split <;> omega) | (unfold wrap64; simp [IntKind.wrap, IntKind.bits, IntKind.signed]; split <;> omega) | simp [IntKind.wrap, IntKind.bits, IntKind.signed]) (by omega) (by omega))

set_option maxRecDepth 100000 in
set_option maxHeartbeats 1000000 in
theorem getMuint32 (g o n cap : Nat) (w : World) (b1 b2 b3 b4 : Nat) (hb1 : b1 < 256) (hb2 : b2 < 256) (hb3 : b3 < 256) (hb4 : b4 < 256) (hn : 5 ≤ n) (hn2 : n ≤ 100) (c1 : w.cell? ⟨g, o + 1, none⟩ = some (.int .u8 (b1 : Nat))) (c2 : w.cell? ⟨g, o + 2, none⟩ = some (.int .u8 (b2 : Nat))) (c3 : w.cell? ⟨g, o + 3, none⟩ = some (.int .u8 (b3 : Nat))) (c4 : w.cell? ⟨g, o + 4, none⟩ = some (.int .u8 (b4 : Nat))) :
    Calls Tryz.prog 116 #[.slice (some ⟨g, o, none⟩) n cap] w (fun e w' => e = .returned (.int .u32 (IntKind.u32.wrap ((b1 * 16777216 + b2 * 65536 + b3 * 256 + b4 : Nat) : Int))) ∧ Only (fun _ => False) w w') := by
  go_enter Tryz.func116, Tryz.ntmps116
  go_wp2
  go_quiet (fail)
  go_wp2
  go_ret
  refine ⟨congrArg Ending.returned (congrArg (Value.int .u32) ?_), by simp⟩
  exact (orv (b1 * 16777216 + b2 * 65536 + b3 * 256) (b4) 8 (orv (b1 * 16777216 + b2 * 65536) (b3 * 256) 16 (orv (b1 * 16777216) (b2 * 65536) 24 (by first | (simp [IntKind.wrap, IntKind.bits, IntKind.signed]; omega) | (unfold wrap32; simp [IntKind.wrap, IntKind.bits, IntKind.signed]; done) | (unfold wrap64; simp [IntKind.wrap, IntKind.bits, IntKind.signed]; done) | (unfold wrap32; simp [IntKind.wrap, IntKind.bits, IntKind.signed]; split <;> omega) | (unfold wrap64; simp [IntKind.wrap, IntKind.bits, IntKind.signed]; split <;> omega) | simp [IntKind.wrap, IntKind.bits, IntKind.signed]) (by first | (simp [IntKind.wrap, IntKind.bits, IntKind.signed]; omega) | (unfold wrap32; simp [IntKind.wrap, IntKind.bits, IntKind.signed]; done) | (unfold wrap64; simp [IntKind.wrap, IntKind.bits, IntKind.signed]; done) | (unfold wrap32; simp [IntKind.wrap, IntKind.bits, IntKind.signed]; split <;> omega) | (unfold wrap64; simp [IntKind.wrap, IntKind.bits, IntKind.signed]; split <;> omega) | simp [IntKind.wrap, IntKind.bits, IntKind.signed]) (by omega) (by omega)) (by first | (simp [IntKind.wrap, IntKind.bits, IntKind.signed]; omega) | (unfold wrap32; simp [IntKind.wrap, IntKind.bits, IntKind.signed]; done) | (unfold wrap64; simp [IntKind.wrap, IntKind.bits, IntKind.signed]; done) | (unfold wrap32; simp [IntKind.wrap, IntKind.bits, IntKind.signed]; split <;> omega) | (unfold wrap64; simp [IntKind.wrap, IntKind.bits, IntKind.signed]; split <;> omega) | simp [IntKind.wrap, IntKind.bits, IntKind.signed]) (by omega) (by omega)) (by first | (simp [IntKind.wrap, IntKind.bits, IntKind.signed]; omega) | (unfold wrap32; simp [IntKind.wrap, IntKind.bits, IntKind.signed]; done) | (unfold wrap64; simp [IntKind.wrap, IntKind.bits, IntKind.signed]; done) | (unfold wrap32; simp [IntKind.wrap, IntKind.bits, IntKind.signed]; split <;> omega) | (unfold wrap64; simp [IntKind.wrap, IntKind.bits, IntKind.signed]; split <;> omega) | simp [IntKind.wrap, IntKind.bits, IntKind.signed]) (by omega) (by omega))

set_option maxRecDepth 100000 in
set_option maxHeartbeats 1000000 in
theorem getMint64 (g o n cap : Nat) (w : World) (b1 b2 b3 b4 b5 b6 b7 b8 : Nat) (hb1 : b1 < 256) (hb2 : b2 < 256) (hb3 : b3 < 256) (hb4 : b4 < 256) (hb5 : b5 < 256) (hb6 : b6 < 256) (hb7 : b7 < 256) (hb8 : b8 < 256) (hn : 9 ≤ n) (hn2 : n ≤ 100) (c1 : w.cell? ⟨g, o + 1, none⟩ = some (.int .u8 (b1 : Nat))) (c2 : w.cell? ⟨g, o + 2, none⟩ = some (.int .u8 (b2 : Nat))) (c3 : w.cell? ⟨g, o + 3, none⟩ = some (.int .u8 (b3 : Nat))) (c4 : w.cell? ⟨g, o + 4, none⟩ = some (.int .u8 (b4 : Nat))) (c5 : w.cell? ⟨g, o + 5, none⟩ = some (.int .u8 (b5 : Nat))) (c6 : w.cell? ⟨g, o + 6, none⟩ = some (.int .u8 (b6 : Nat))) (c7 : w.cell? ⟨g, o + 7, none⟩ = some (.int .u8 (b7 : Nat))) (c8 : w.cell? ⟨g, o + 8, none⟩ = some (.int .u8 (b8 : Nat))) :
    Calls Tryz.prog 117 #[.slice (some ⟨g, o, none⟩) n cap] w (fun e w' => e = .returned (.int .i64 (IntKind.i64.wrap ((b1 * 72057594037927936 + b2 * 281474976710656 + b3 * 1099511627776 + b4 * 4294967296 + b5 * 16777216 + b6 * 65536 + b7 * 256 + b8 : Nat) : Int))) ∧ Only (fun _ => False) w w') := by
  go_enter Tryz.func117, Tryz.ntmps117
  go_wp2
  go_quiet (fail)
  go_wp2
  go_ret
  refine ⟨congrArg Ending.returned (congrArg (Value.int .i64) ?_), by simp⟩
  exact (orv (b1 * 72057594037927936 + b2 * 281474976710656 + b3 * 1099511627776 + b4 * 4294967296 + b5 * 16777216 + b6 * 65536 + b7 * 256) (b8) 8 (orv (b1 * 72057594037927936 + b2 * 281474976710656 + b3 * 1099511627776 + b4 * 4294967296 + b5 * 16777216 + b6 * 65536) (b7 * 256) 16 (orv (b1 * 72057594037927936 + b2 * 281474976710656 + b3 * 1099511627776 + b4 * 4294967296 + b5 * 16777216) (b6 * 65536) 24 (orv (b1 * 72057594037927936 + b2 * 281474976710656 + b3 * 1099511627776 + b4 * 4294967296) (b5 * 16777216) 32 (orv (b1 * 72057594037927936 + b2 * 281474976710656 + b3 * 1099511627776) (b4 * 4294967296) 40 (orv (b1 * 72057594037927936 + b2 * 281474976710656) (b3 * 1099511627776) 48 (orv (b1 * 72057594037927936) (b2 * 281474976710656) 56 (by first | (simp [IntKind.wrap, IntKind.bits, IntKind.signed]; omega) | (unfold wrap32; simp [IntKind.wrap, IntKind.bits, IntKind.signed]; done) | (unfold wrap64; simp [IntKind.wrap, IntKind.bits, IntKind.signed]; done) | (unfold wrap32; simp [IntKind.wrap, IntKind.bits, IntKind.signed]; split <;> omega) | (unfold wrap64; simp [IntKind.wrap, IntKind.bits, IntKind.signed]; split <;> omega) | simp [IntKind.wrap, IntKind.bits, IntKind.signed]) (by first | (simp [IntKind.wrap, IntKind.bits, IntKind.signed]; omega) | (unfold wrap32; simp [IntKind.wrap, IntKind.bits, IntKind.signed]; done) | (unfold wrap64; simp [IntKind.wrap, IntKind.bits, IntKind.signed]; done) | (unfold wrap32; simp [IntKind.wrap, IntKind.bits, IntKind.signed]; split <;> omega) | (unfold wrap64; simp [IntKind.wrap, IntKind.bits, IntKind.signed]; split <;> omega) | simp [IntKind.wrap, IntKind.bits, IntKind.signed]) (by omega) (by omega)) (by first | (simp [IntKind.wrap, IntKind.bits, IntKind.signed]; omega) | (unfold wrap32; simp [IntKind.wrap, IntKind.bits, IntKind.signed]; done) | (unfold wrap64; simp [IntKind.wrap, IntKind.bits, IntKind.signed]; done) | (unfold wrap32; simp [IntKind.wrap, IntKind.bits, IntKind.signed]; split <;> omega) | (unfold wrap64; simp [IntKind.wrap, IntKind.bits, IntKind.signed]; split <;> omega) | simp [IntKind.wrap, IntKind.bits, IntKind.signed]) (by omega) (by omega)) (by first | (simp [IntKind.wrap, IntKind.bits, IntKind.signed]; omega) | (unfold wrap32; simp [IntKind.wrap, IntKind.bits, IntKind.signed]; done) | (unfold wrap64; simp [IntKind.wrap, IntKind.bits, IntKind.signed]; done) | (unfold wrap32; simp [IntKind.wrap, IntKind.bits, IntKind.signed]; split <;> omega) | (unfold wrap64; simp [IntKind.wrap, IntKind.bits, IntKind.signed]; split <;> omega) | simp [IntKind.wrap, IntKind.bits, IntKind.signed]) (by omega) (by omega)) (by first | (simp [IntKind.wrap, IntKind.bits, IntKind.signed]; omega) | (unfold wrap32; simp [IntKind.wrap, IntKind.bits, IntKind.signed]; done) | (unfold wrap64; simp [IntKind.wrap, IntKind.bits, IntKind.signed]; done) | (unfold wrap32; simp [IntKind.wrap, IntKind.bits, IntKind.signed]; split <;> omega) | (unfold wrap64; simp [IntKind.wrap, IntKind.bits, IntKind.signed]; split <;> omega) | simp [IntKind.wrap, IntKind.bits, IntKind.signed]) (by omega) (by omega)) (by first | (simp [IntKind.wrap, IntKind.bits, IntKind.signed]; omega) | (unfold wrap32; simp [IntKind.wrap, IntKind.bits, IntKind.signed]; done) | (unfold wrap64; simp [IntKind.wrap, IntKind.bits, IntKind.signed]; done) | (unfold wrap32; simp [IntKind.wrap, IntKind.bits, IntKind.signed]; split <;> omega) | (unfold wrap64; simp [IntKind.wrap, IntKind.bits, IntKind.signed]; split <;> omega) | simp [IntKind.wrap, IntKind.bits, IntKind.signed]) (by omega) (by omega)) (by first | (simp [IntKind.wrap, IntKind.bits, IntKind.signed]; omega) | (unfold wrap32; simp [IntKind.wrap, IntKind.bits, IntKind.signed]; done) | (unfold wrap64; simp [IntKind.wrap, IntKind.bits, IntKind.signed]; done) | (unfold wrap32; simp [IntKind.wrap, IntKind.bits, IntKind.signed]; split <;> omega) | (unfold wrap64; simp [IntKind.wrap, IntKind.bits, IntKind.signed]; split <;> omega) | simp [IntKind.wrap, IntKind.bits, IntKind.signed]) (by omega) (by omega)) (by first | (simp [IntKind.wrap, IntKind.bits, IntKind.signed]; omega) | (unfold wrap32; simp [IntKind.wrap, IntKind.bits, IntKind.signed]; done) | (unfold wrap64; simp [IntKind.wrap, IntKind.bits, IntKind.signed]; done) | (unfold wrap32; simp [IntKind.wrap, IntKind.bits, IntKind.signed]; split <;> omega) | (unfold wrap64; simp [IntKind.wrap, IntKind.bits, IntKind.signed]; split <;> omega) | simp [IntKind.wrap, IntKind.bits, IntKind.signed]) (by omega) (by omega))

set_option maxRecDepth 100000 in
set_option maxHeartbeats 1000000 in
theorem getMuint64 (g o n cap : Nat) (w : World) (b1 b2 b3 b4 b5 b6 b7 b8 : Nat) (hb1 : b1 < 256) (hb2 : b2 < 256) (hb3 : b3 < 256) (hb4 : b4 < 256) (hb5 : b5 < 256) (hb6 : b6 < 256) (hb7 : b7 < 256) (hb8 : b8 < 256) (hn : 9 ≤ n) (hn2 : n ≤ 100) (c1 : w.cell? ⟨g, o + 1, none⟩ = some (.int .u8 (b1 : Nat))) (c2 : w.cell? ⟨g, o + 2, none⟩ = some (.int .u8 (b2 : Nat))) (c3 : w.cell? ⟨g, o + 3, none⟩ = some (.int .u8 (b3 : Nat))) (c4 : w.cell? ⟨g, o + 4, none⟩ = some (.int .u8 (b4 : Nat))) (c5 : w.cell? ⟨g, o + 5, none⟩ = some (.int .u8 (b5 : Nat))) (c6 : w.cell? ⟨g, o + 6, none⟩ = some (.int .u8 (b6 : Nat))) (c7 : w.cell? ⟨g, o + 7, none⟩ = some (.int .u8 (b7 : Nat))) (c8 : w.cell? ⟨g, o + 8, none⟩ = some (.int .u8 (b8 : Nat))) :
    Calls Tryz.prog 118 #[.slice (some ⟨g, o, none⟩) n cap] w (fun e w' => e = .returned (.int .u64 (IntKind.u64.wrap ((b1 * 72057594037927936 + b2 * 281474976710656 + b3 * 1099511627776 + b4 * 4294967296 + b5 * 16777216 + b6 * 65536 + b7 * 256 + b8 : Nat) : Int))) ∧ Only (fun _ => False) w w') := by
  go_enter Tryz.func118, Tryz.ntmps118
  go_wp2
  go_quiet (fail)
  go_wp2
  go_ret
  refine ⟨congrArg Ending.returned (congrArg (Value.int .u64) ?_), by simp⟩
  exact (orv (b1 * 72057594037927936 + b2 * 281474976710656 + b3 * 1099511627776 + b4 * 4294967296 + b5 * 16777216 + b6 * 65536 + b7 * 256) (b8) 8 (orv (b1 * 72057594037927936 + b2 * 281474976710656 + b3 * 1099511627776 + b4 * 4294967296 + b5 * 16777216 + b6 * 65536) (b7 * 256) 16 (orv (b1 * 72057594037927936 + b2 * 281474976710656 + b3 * 1099511627776 + b4 * 4294967296 + b5 * 16777216) (b6 * 65536) 24 (orv (b1 * 72057594037927936 + b2 * 281474976710656 + b3 * 1099511627776 + b4 * 4294967296) (b5 * 16777216) 32 (orv (b1 * 72057594037927936 + b2 * 281474976710656 + b3 * 1099511627776) (b4 * 4294967296) 40 (orv (b1 * 72057594037927936 + b2 * 281474976710656) (b3 * 1099511627776) 48 (orv (b1 * 72057594037927936) (b2 * 281474976710656) 56 (by first | (simp [IntKind.wrap, IntKind.bits, IntKind.signed]; omega) | (unfold wrap32; simp [IntKind.wrap, IntKind.bits, IntKind.signed]; done) | (unfold wrap64; simp [IntKind.wrap, IntKind.bits, IntKind.signed]; done) | (unfold wrap32; simp [IntKind.wrap, IntKind.bits, IntKind.signed]; split <;> omega) | (unfold wrap64; simp [IntKind.wrap, IntKind.bits, IntKind.signed]; split <;> omega) | simp [IntKind.wrap, IntKind.bits, IntKind.signed]) (by first | (simp [IntKind.wrap, IntKind.bits, IntKind.signed]; omega) | (unfold wrap32; simp [IntKind.wrap, IntKind.bits, IntKind.signed]; done) | (unfold wrap64; simp [IntKind.wrap, IntKind.bits, IntKind.signed]; done) | (unfold wrap32; simp [IntKind.wrap, IntKind.bits, IntKind.signed]; split <;> omega) | (unfold wrap64; simp [IntKind.wrap, IntKind.bits, IntKind.signed]; split <;> omega) | simp [IntKind.wrap, IntKind.bits, IntKind.signed]) (by omega) (by omega)) (by first | (simp [IntKind.wrap, IntKind.bits, IntKind.signed]; omega) | (unfold wrap32; simp [IntKind.wrap, IntKind.bits, IntKind.signed]; done) | (unfold wrap64; simp [IntKind.wrap, IntKind.bits, IntKind.signed]; done) | (unfold wrap32; simp [IntKind.wrap, IntKind.bits, IntKind.signed]; split <;> omega) | (unfold wrap64; simp [IntKind.wrap, IntKind.bits, IntKind.signed]; split <;> omega) | simp [IntKind.wrap, IntKind.bits, IntKind.signed]) (by omega) (by omega)) (by first | (simp [IntKind.wrap, IntKind.bits, IntKind.signed]; omega) | (unfold wrap32; simp [IntKind.wrap, IntKind.bits, IntKind.signed]; done) | (unfold wrap64; simp [IntKind.wrap, IntKind.bits, IntKind.signed]; done) | (unfold wrap32; simp [IntKind.wrap, IntKind.bits, IntKind.signed]; split <;> omega) | (unfold wrap64; simp [IntKind.wrap, IntKind.bits, IntKind.signed]; split <;> omega) | simp [IntKind.wrap, IntKind.bits, IntKind.signed]) (by omega) (by omega)) (by first | (simp [IntKind.wrap, IntKind.bits, IntKind.signed]; omega) | (unfold wrap32; simp [IntKind.wrap, IntKind.bits, IntKind.signed]; done) | (unfold wrap64; simp [IntKind.wrap, IntKind.bits, IntKind.signed]; done) | (unfold wrap32; simp [IntKind.wrap, IntKind.bits, IntKind.signed]; split <;> omega) | (unfold wrap64; simp [IntKind.wrap, IntKind.bits, IntKind.signed]; split <;> omega) | simp [IntKind.wrap, IntKind.bits, IntKind.signed]) (by omega) (by omega)) (by first | (simp [IntKind.wrap, IntKind.bits, IntKind.signed]; omega) | (unfold wrap32; simp [IntKind.wrap, IntKind.bits, IntKind.signed]; done) | (unfold wrap64; simp [IntKind.wrap, IntKind.bits, IntKind.signed]; done) | (unfold wrap32; simp [IntKind.wrap, IntKind.bits, IntKind.signed]; split <;> omega) | (unfold wrap64; simp [IntKind.wrap, IntKind.bits, IntKind.signed]; split <;> omega) | simp [IntKind.wrap, IntKind.bits, IntKind.signed]) (by omega) (by omega)) (by first | (simp [IntKind.wrap, IntKind.bits, IntKind.signed]; omega) | (unfold wrap32; simp [IntKind.wrap, IntKind.bits, IntKind.signed]; done) | (unfold wrap64; simp [IntKind.wrap, IntKind.bits, IntKind.signed]; done) | (unfold wrap32; simp [IntKind.wrap, IntKind.bits, IntKind.signed]; split <;> omega) | (unfold wrap64; simp [IntKind.wrap, IntKind.bits, IntKind.signed]; split <;> omega) | simp [IntKind.wrap, IntKind.bits, IntKind.signed]) (by omega) (by omega)) (by first | (simp [IntKind.wrap, IntKind.bits, IntKind.signed]; omega) | (unfold wrap32; simp [IntKind.wrap, IntKind.bits, IntKind.signed]; done) | (unfold wrap64; simp [IntKind.wrap, IntKind.bits, IntKind.signed]; done) | (unfold wrap32; simp [IntKind.wrap, IntKind.bits, IntKind.signed]; split <;> omega) | (unfold wrap64; simp [IntKind.wrap, IntKind.bits, IntKind.signed]; split <;> omega) | simp [IntKind.wrap, IntKind.bits, IntKind.signed]) (by omega) (by omega))

set_option maxRecDepth 100000 in
set_option maxHeartbeats 1000000 in
theorem beU16 (g o n cap : Nat) (w : World) (b1 b2 : Nat) (hb1 : b1 < 256) (hb2 : b2 < 256) (hn : 2 ≤ n) (hn2 : n ≤ 100) (c1 : w.cell? ⟨g, o, none⟩ = some (.int .u8 (b1 : Nat))) (c2 : w.cell? ⟨g, o + 1, none⟩ = some (.int .u8 (b2 : Nat))) :
    Calls Tryz.prog 70 #[.agg #[], .slice (some ⟨g, o, none⟩) n cap] w (fun e w' => e = .returned (.int .u16 (IntKind.u16.wrap ((b2 + b1 * 256 : Nat) : Int))) ∧ Only (fun _ => False) w w') := by
  have hlt : g < w.heap.size := World.block_lt_of_cell? w _ c1
  have n1 : ¬ w.heap.size = g := by omega
  go_enter Tryz.func70, Tryz.ntmps70
  go_wp2
  go_quiet (fail)
  go_wp2
  go_ret
  refine ⟨congrArg Ending.returned (congrArg (Value.int .u16) ?_), by simp⟩
  exact (orr (b2) (b1 * 256) 8 (by first | (simp [IntKind.wrap, IntKind.bits, IntKind.signed]; omega) | (unfold wrap32; simp [IntKind.wrap, IntKind.bits, IntKind.signed]; done) | (unfold wrap64; simp [IntKind.wrap, IntKind.bits, IntKind.signed]; done) | (unfold wrap32; simp [IntKind.wrap, IntKind.bits, IntKind.signed]; split <;> omega) | (unfold wrap64; simp [IntKind.wrap, IntKind.bits, IntKind.signed]; split <;> omega) | simp [IntKind.wrap, IntKind.bits, IntKind.signed]) (by first | (simp [IntKind.wrap, IntKind.bits, IntKind.signed]; omega) | (unfold wrap32; simp [IntKind.wrap, IntKind.bits, IntKind.signed]; done) | (unfold wrap64; simp [IntKind.wrap, IntKind.bits, IntKind.signed]; done) | (unfold wrap32; simp [IntKind.wrap, IntKind.bits, IntKind.signed]; split <;> omega) | (unfold wrap64; simp [IntKind.wrap, IntKind.bits, IntKind.signed]; split <;> omega) | simp [IntKind.wrap, IntKind.bits, IntKind.signed]) (by omega) (by omega))

set_option maxRecDepth 100000 in
set_option maxHeartbeats 1000000 in
theorem beU32 (g o n cap : Nat) (w : World) (b1 b2 b3 b4 : Nat) (hb1 : b1 < 256) (hb2 : b2 < 256) (hb3 : b3 < 256) (hb4 : b4 < 256) (hn : 4 ≤ n) (hn2 : n ≤ 100) (c1 : w.cell? ⟨g, o, none⟩ = some (.int .u8 (b1 : Nat))) (c2 : w.cell? ⟨g, o + 1, none⟩ = some (.int .u8 (b2 : Nat))) (c3 : w.cell? ⟨g, o + 2, none⟩ = some (.int .u8 (b3 : Nat))) (c4 : w.cell? ⟨g, o + 3, none⟩ = some (.int .u8 (b4 : Nat))) :
    Calls Tryz.prog 71 #[.agg #[], .slice (some ⟨g, o, none⟩) n cap] w (fun e w' => e = .returned (.int .u32 (IntKind.u32.wrap ((b4 + b3 * 256 + b2 * 65536 + b1 * 16777216 : Nat) : Int))) ∧ Only (fun _ => False) w w') := by
  have hlt : g < w.heap.size := World.block_lt_of_cell? w _ c1
  have n1 : ¬ w.heap.size = g := by omega
  go_enter Tryz.func71, Tryz.ntmps71
  go_wp2
  go_quiet (fail)
  go_wp2
  go_ret
  refine ⟨congrArg Ending.returned (congrArg (Value.int .u32) ?_), by simp⟩
  exact (orr (b4 + b3 * 256 + b2 * 65536) (b1 * 16777216) 24 (orr (b4 + b3 * 256) (b2 * 65536) 16 (orr (b4) (b3 * 256) 8 (by first | (simp [IntKind.wrap, IntKind.bits, IntKind.signed]; omega) | (unfold wrap32; simp [IntKind.wrap, IntKind.bits, IntKind.signed]; done) | (unfold wrap64; simp [IntKind.wrap, IntKind.bits, IntKind.signed]; done) | (unfold wrap32; simp [IntKind.wrap, IntKind.bits, IntKind.signed]; split <;> omega) | (unfold wrap64; simp [IntKind.wrap, IntKind.bits, IntKind.signed]; split <;> omega) | simp [IntKind.wrap, IntKind.bits, IntKind.signed]) (by first | (simp [IntKind.wrap, IntKind.bits, IntKind.signed]; omega) | (unfold wrap32; simp [IntKind.wrap, IntKind.bits, IntKind.signed]; done) | (unfold wrap64; simp [IntKind.wrap, IntKind.bits, IntKind.signed]; done) | (unfold wrap32; simp [IntKind.wrap, IntKind.bits, IntKind.signed]; split <;> omega) | (unfold wrap64; simp [IntKind.wrap, IntKind.bits, IntKind.signed]; split <;> omega) | simp [IntKind.wrap, IntKind.bits, IntKind.signed]) (by omega) (by omega)) (by first | (simp [IntKind.wrap, IntKind.bits, IntKind.signed]; omega) | (unfold wrap32; simp [IntKind.wrap, IntKind.bits, IntKind.signed]; done) | (unfold wrap64; simp [IntKind.wrap, IntKind.bits, IntKind.signed]; done) | (unfold wrap32; simp [IntKind.wrap, IntKind.bits, IntKind.signed]; split <;> omega) | (unfold wrap64; simp [IntKind.wrap, IntKind.bits, IntKind.signed]; split <;> omega) | simp [IntKind.wrap, IntKind.bits, IntKind.signed]) (by omega) (by omega)) (by first | (simp [IntKind.wrap, IntKind.bits, IntKind.signed]; omega) | (unfold wrap32; simp [IntKind.wrap, IntKind.bits, IntKind.signed]; done) | (unfold wrap64; simp [IntKind.wrap, IntKind.bits, IntKind.signed]; done) | (unfold wrap32; simp [IntKind.wrap, IntKind.bits, IntKind.signed]; split <;> omega) | (unfold wrap64; simp [IntKind.wrap, IntKind.bits, IntKind.signed]; split <;> omega) | simp [IntKind.wrap, IntKind.bits, IntKind.signed]) (by omega) (by omega))
end Go.Proofs.YtbgckolcimlofaaGreatDoor
