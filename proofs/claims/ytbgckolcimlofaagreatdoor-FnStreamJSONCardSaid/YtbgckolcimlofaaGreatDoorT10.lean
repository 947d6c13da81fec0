/-
  getType and the table of first bytes; for every byte of a written value.
-/
import Derived.Test.YtbgckolcimlofaaGreatDoorProg
import Derived.Test.YtbgckolcimlofaaGreatDoorT09
set_option linter.unusedVariables false
set_option linter.unusedSimpArgs false
namespace Go.Proofs.YtbgckolcimlofaaGreatDoor
open Go.RowKit YtbgckolcimlofaaGreatDoorPj
/-- Three cells that may be written. -/
structure Three (w : World) (b : Nat) (v0 v1 v2 v3 : Value) : Prop where
  c0 : w.cell? ⟨b, 0, none⟩ = some v0
  c1 : w.cell? ⟨b, 1, none⟩ = some v1
  c2 : w.cell? ⟨b, 2, none⟩ = some v2
  c3 : w.cell? ⟨b, 3, none⟩ = some v3
  f0 : w.frozen? ⟨b, 0, none⟩ = false
  f1 : w.frozen? ⟨b, 1, none⟩ = false
  f2 : w.frozen? ⟨b, 2, none⟩ = false
  f3 : w.frozen? ⟨b, 3, none⟩ = false
theorem res_cell3 {fn : Func} {t : Tmp} {tmps : Array Value} {w : World} {H : Nat} {x0 x1 x2 x3 : Value} (hr : fn.results = #[.cell t 121]) (h2 : tmps.getD t undef = .pointer (some ⟨H, 0, none⟩))
    (h : Three w H x0 x1 x2 x3) : (results fn tmps).run Tryz.prog w = .ok (.agg #[x0, x1, x2, x3]) w := by
  obtain ⟨c0, c1, c2, c3, f0, f1, f2, f3⟩ := h
  simp at h2
  simp [results, hr, go_sem, h2, c0, c1, c2, c3]
theorem Three.new (w : World) (v0 v1 v2 v3 : Value) (t : TypeId) : Three (w.alloc (.cells #[v0, v1, v2, v3] t)) w.heap.size v0 v1 v2 v3 := by
  constructor <;> go_simp
theorem Three.lt {w : World} {b : Nat} {v0 v1 v2 v3 : Value} (h : Three w b v0 v1 v2 v3) : b < w.heap.size := World.block_lt_of_cell? w _ h.c0
theorem Three.only {w w' : World} {b : Nat} {v0 v1 v2 v3 : Value} {S : Nat → Prop} (h : Three w b v0 v1 v2 v3) (ho : Only S w w') (hS : ¬ S b) : Three w' b v0 v1 v2 v3 :=
  ⟨(ho.cell h.lt hS).trans h.c0, (ho.cell h.lt hS).trans h.c1, (ho.cell h.lt hS).trans h.c2, (ho.cell h.lt hS).trans h.c3, (ho.frozen h.lt hS).trans h.f0, (ho.frozen h.lt hS).trans h.f1, (ho.frozen h.lt hS).trans h.f2, (ho.frozen h.lt hS).trans h.f3⟩
theorem Three.sets {w : World} {b : Nat} {v0 v1 v2 v3 : Value} (h : Three w b v0 v1 v2 v3) (x0 x1 x2 x3 : Value) : Three ((((w.setCell ⟨b, 0, none⟩ x0).setCell ⟨b, 1, none⟩ x1).setCell ⟨b, 2, none⟩ x2).setCell ⟨b, 3, none⟩ x3) b x0 x1 x2 x3 := by
  obtain ⟨c0, c1, c2, c3, f0, f1, f2, f3⟩ := h
  constructor <;> go_simp
theorem only_sets4 {w w1 : World} (h : Only (fun _ => False) w w1) (x0 x1 x2 x3 : Value) : Only (fun _ => False) w ((((w1.setCell ⟨w.heap.size, 0, none⟩ x0).setCell ⟨w.heap.size, 1, none⟩ x1).setCell ⟨w.heap.size, 2, none⟩ x2).setCell ⟨w.heap.size, 3, none⟩ x3) :=
  h.trans' (T := fun k => k = w.heap.size) ((((Only.setCell (S := fun k => k = w.heap.size) (p := ⟨w.heap.size, 3, none⟩) (Only.setCell (S := fun k => k = w.heap.size) (p := ⟨w.heap.size, 2, none⟩) (Only.setCell (S := fun k => k = w.heap.size) (p := ⟨w.heap.size, 1, none⟩) (Only.setCell (S := fun k => k = w.heap.size) (p := ⟨w.heap.size, 0, none⟩) (Only.refl _ _) (fun _ => rfl) _) (fun _ => rfl) _) (fun _ => rfl) _) (fun _ => rfl) _)))) fun i hi e => by have e : i = w.heap.size := e; omega
def SpecPost (t : Int) (w : World) (e : Ending) (w' : World) : Prop := ∃ x y z, e = .returned (.agg #[.int .u8 x, .int .i8 y, .int .u8 t, .int .u8 z]) ∧ Only (fun _ => False) w w'
def TypePost (t : Int) (w : World) (e : Ending) (w' : World) : Prop := e = .returned (.int .u8 t) ∧ Only (fun _ => False) w w'
theorem rfixstr_at (b : Nat) (w : World) (h : 160 ≤ b ∧ b < 192) : Calls Tryz.prog 67 #[.int .u8 (b : Nat)] w (fun e w' => e = .returned (.int .u8 ((b : Int) - 160)) ∧ w = w') := by
  obtain ⟨n, rfl⟩ : ∃ n, b = 160 + n := ⟨b - 160, by omega⟩
  refine (rfixstr n (by omega) w).mono fun e w' ⟨h1, h2⟩ => ⟨?_, h2⟩
  rw [h1]
  exact congrArg Ending.returned (congrArg (Value.int .u8) (by omega))
theorem rfixmap_at (b : Nat) (w : World) (h : 128 ≤ b ∧ b < 144) : Calls Tryz.prog 103 #[.int .u8 (b : Nat)] w (fun e w' => e = .returned (.int .u8 ((b : Int) - 128)) ∧ w = w') := by
  obtain ⟨n, rfl⟩ : ∃ n, b = 128 + n := ⟨b - 128, by omega⟩
  refine (rfixmap n (by omega) w).mono fun e w' ⟨h1, h2⟩ => ⟨?_, h2⟩
  rw [h1]
  exact congrArg Ending.returned (congrArg (Value.int .u8) (by omega))
theorem rfixarray_at (b : Nat) (w : World) (h : 144 ≤ b ∧ b < 160) : Calls Tryz.prog 122 #[.int .u8 (b : Nat)] w (fun e w' => e = .returned (.int .u8 ((b : Int) - 144)) ∧ w = w') := by
  obtain ⟨n, rfl⟩ : ∃ n, b = 144 + n := ⟨b - 144, by omega⟩
  refine (rfixarray n (by omega) w).mono fun e w' ⟨h1, h2⟩ => ⟨?_, h2⟩
  rw [h1]
  exact congrArg Ending.returned (congrArg (Value.int .u8) (by omega))

set_option maxRecDepth 100000 in
set_option maxHeartbeats 1000000 in
theorem spec_192 (w : World) : Calls Tryz.prog 95 #[.int .u8 192] w (SpecPost 10 w) := by
  go_enter Tryz.func95, Tryz.ntmps95
  go_wp2
  exact bodyPost_ret (res_cell3 rfl rfl (Three.new _ _ _ _ _ _)) rfl ⟨_, _, _, rfl, by simp⟩

set_option maxRecDepth 100000 in
set_option maxHeartbeats 1000000 in
theorem spec_194 (w : World) : Calls Tryz.prog 95 #[.int .u8 194] w (SpecPost 7 w) := by
  go_enter Tryz.func95, Tryz.ntmps95
  go_wp2
  exact bodyPost_ret (res_cell3 rfl rfl (Three.new _ _ _ _ _ _)) rfl ⟨_, _, _, rfl, by simp⟩

set_option maxRecDepth 100000 in
set_option maxHeartbeats 1000000 in
theorem spec_195 (w : World) : Calls Tryz.prog 95 #[.int .u8 195] w (SpecPost 7 w) := by
  go_enter Tryz.func95, Tryz.ntmps95
  go_wp2
  exact bodyPost_ret (res_cell3 rfl rfl (Three.new _ _ _ _ _ _)) rfl ⟨_, _, _, rfl, by simp⟩

set_option maxRecDepth 100000 in
set_option maxHeartbeats 1000000 in
theorem spec_196 (w : World) : Calls Tryz.prog 95 #[.int .u8 196] w (SpecPost 2 w) := by
  go_enter Tryz.func95, Tryz.ntmps95
  go_wp2
  exact bodyPost_ret (res_cell3 rfl rfl (Three.new _ _ _ _ _ _)) rfl ⟨_, _, _, rfl, by simp⟩

set_option maxRecDepth 100000 in
set_option maxHeartbeats 1000000 in
theorem spec_197 (w : World) : Calls Tryz.prog 95 #[.int .u8 197] w (SpecPost 2 w) := by
  go_enter Tryz.func95, Tryz.ntmps95
  go_wp2
  exact bodyPost_ret (res_cell3 rfl rfl (Three.new _ _ _ _ _ _)) rfl ⟨_, _, _, rfl, by simp⟩

set_option maxRecDepth 100000 in
set_option maxHeartbeats 1000000 in
theorem spec_198 (w : World) : Calls Tryz.prog 95 #[.int .u8 198] w (SpecPost 2 w) := by
  go_enter Tryz.func95, Tryz.ntmps95
  go_wp2
  exact bodyPost_ret (res_cell3 rfl rfl (Three.new _ _ _ _ _ _)) rfl ⟨_, _, _, rfl, by simp⟩

set_option maxRecDepth 100000 in
set_option maxHeartbeats 1000000 in
theorem spec_204 (w : World) : Calls Tryz.prog 95 #[.int .u8 204] w (SpecPost 9 w) := by
  go_enter Tryz.func95, Tryz.ntmps95
  go_wp2
  exact bodyPost_ret (res_cell3 rfl rfl (Three.new _ _ _ _ _ _)) rfl ⟨_, _, _, rfl, by simp⟩

set_option maxRecDepth 100000 in
set_option maxHeartbeats 1000000 in
theorem spec_205 (w : World) : Calls Tryz.prog 95 #[.int .u8 205] w (SpecPost 9 w) := by
  go_enter Tryz.func95, Tryz.ntmps95
  go_wp2
  exact bodyPost_ret (res_cell3 rfl rfl (Three.new _ _ _ _ _ _)) rfl ⟨_, _, _, rfl, by simp⟩

set_option maxRecDepth 100000 in
set_option maxHeartbeats 1000000 in
theorem spec_206 (w : World) : Calls Tryz.prog 95 #[.int .u8 206] w (SpecPost 9 w) := by
  go_enter Tryz.func95, Tryz.ntmps95
  go_wp2
  exact bodyPost_ret (res_cell3 rfl rfl (Three.new _ _ _ _ _ _)) rfl ⟨_, _, _, rfl, by simp⟩

set_option maxRecDepth 100000 in
set_option maxHeartbeats 1000000 in
theorem spec_207 (w : World) : Calls Tryz.prog 95 #[.int .u8 207] w (SpecPost 9 w) := by
  go_enter Tryz.func95, Tryz.ntmps95
  go_wp2
  exact bodyPost_ret (res_cell3 rfl rfl (Three.new _ _ _ _ _ _)) rfl ⟨_, _, _, rfl, by simp⟩

set_option maxRecDepth 100000 in
set_option maxHeartbeats 1000000 in
theorem spec_208 (w : World) : Calls Tryz.prog 95 #[.int .u8 208] w (SpecPost 8 w) := by
  go_enter Tryz.func95, Tryz.ntmps95
  go_wp2
  exact bodyPost_ret (res_cell3 rfl rfl (Three.new _ _ _ _ _ _)) rfl ⟨_, _, _, rfl, by simp⟩

set_option maxRecDepth 100000 in
set_option maxHeartbeats 1000000 in
theorem spec_209 (w : World) : Calls Tryz.prog 95 #[.int .u8 209] w (SpecPost 8 w) := by
  go_enter Tryz.func95, Tryz.ntmps95
  go_wp2
  exact bodyPost_ret (res_cell3 rfl rfl (Three.new _ _ _ _ _ _)) rfl ⟨_, _, _, rfl, by simp⟩

set_option maxRecDepth 100000 in
set_option maxHeartbeats 1000000 in
theorem spec_210 (w : World) : Calls Tryz.prog 95 #[.int .u8 210] w (SpecPost 8 w) := by
  go_enter Tryz.func95, Tryz.ntmps95
  go_wp2
  exact bodyPost_ret (res_cell3 rfl rfl (Three.new _ _ _ _ _ _)) rfl ⟨_, _, _, rfl, by simp⟩

set_option maxRecDepth 100000 in
set_option maxHeartbeats 1000000 in
theorem spec_211 (w : World) : Calls Tryz.prog 95 #[.int .u8 211] w (SpecPost 8 w) := by
  go_enter Tryz.func95, Tryz.ntmps95
  go_wp2
  exact bodyPost_ret (res_cell3 rfl rfl (Three.new _ _ _ _ _ _)) rfl ⟨_, _, _, rfl, by simp⟩

set_option maxRecDepth 100000 in
set_option maxHeartbeats 1000000 in
theorem spec_217 (w : World) : Calls Tryz.prog 95 #[.int .u8 217] w (SpecPost 1 w) := by
  go_enter Tryz.func95, Tryz.ntmps95
  go_wp2
  exact bodyPost_ret (res_cell3 rfl rfl (Three.new _ _ _ _ _ _)) rfl ⟨_, _, _, rfl, by simp⟩

set_option maxRecDepth 100000 in
set_option maxHeartbeats 1000000 in
theorem spec_218 (w : World) : Calls Tryz.prog 95 #[.int .u8 218] w (SpecPost 1 w) := by
  go_enter Tryz.func95, Tryz.ntmps95
  go_wp2
  exact bodyPost_ret (res_cell3 rfl rfl (Three.new _ _ _ _ _ _)) rfl ⟨_, _, _, rfl, by simp⟩

set_option maxRecDepth 100000 in
set_option maxHeartbeats 1000000 in
theorem spec_219 (w : World) : Calls Tryz.prog 95 #[.int .u8 219] w (SpecPost 1 w) := by
  go_enter Tryz.func95, Tryz.ntmps95
  go_wp2
  exact bodyPost_ret (res_cell3 rfl rfl (Three.new _ _ _ _ _ _)) rfl ⟨_, _, _, rfl, by simp⟩

set_option maxRecDepth 100000 in
set_option maxHeartbeats 1000000 in
theorem spec_220 (w : World) : Calls Tryz.prog 95 #[.int .u8 220] w (SpecPost 4 w) := by
  go_enter Tryz.func95, Tryz.ntmps95
  go_wp2
  exact bodyPost_ret (res_cell3 rfl rfl (Three.new _ _ _ _ _ _)) rfl ⟨_, _, _, rfl, by simp⟩

set_option maxRecDepth 100000 in
set_option maxHeartbeats 1000000 in
theorem spec_221 (w : World) : Calls Tryz.prog 95 #[.int .u8 221] w (SpecPost 4 w) := by
  go_enter Tryz.func95, Tryz.ntmps95
  go_wp2
  exact bodyPost_ret (res_cell3 rfl rfl (Three.new _ _ _ _ _ _)) rfl ⟨_, _, _, rfl, by simp⟩

set_option maxRecDepth 100000 in
set_option maxHeartbeats 1000000 in
theorem spec_222 (w : World) : Calls Tryz.prog 95 #[.int .u8 222] w (SpecPost 3 w) := by
  go_enter Tryz.func95, Tryz.ntmps95
  go_wp2
  exact bodyPost_ret (res_cell3 rfl rfl (Three.new _ _ _ _ _ _)) rfl ⟨_, _, _, rfl, by simp⟩

set_option maxRecDepth 100000 in
set_option maxHeartbeats 1000000 in
theorem spec_223 (w : World) : Calls Tryz.prog 95 #[.int .u8 223] w (SpecPost 3 w) := by
  go_enter Tryz.func95, Tryz.ntmps95
  go_wp2
  exact bodyPost_ret (res_cell3 rfl rfl (Three.new _ _ _ _ _ _)) rfl ⟨_, _, _, rfl, by simp⟩

set_option maxRecDepth 100000 in
set_option maxHeartbeats 2000000 in
theorem spec_fixint (b : Nat) (h1 : 0 ≤ b) (h2 : b < 128) (w : World) : Calls Tryz.prog 95 #[.int .u8 (b : Nat)] w (SpecPost 8 w) := by
  have e192 : ((b : Int) == 192) = false := by simp; omega
  have e194 : ((b : Int) == 194) = false := by simp; omega
  have e195 : ((b : Int) == 195) = false := by simp; omega
  have e196 : ((b : Int) == 196) = false := by simp; omega
  have e197 : ((b : Int) == 197) = false := by simp; omega
  have e198 : ((b : Int) == 198) = false := by simp; omega
  have e199 : ((b : Int) == 199) = false := by simp; omega
  have e200 : ((b : Int) == 200) = false := by simp; omega
  have e201 : ((b : Int) == 201) = false := by simp; omega
  have e202 : ((b : Int) == 202) = false := by simp; omega
  have e203 : ((b : Int) == 203) = false := by simp; omega
  have e204 : ((b : Int) == 204) = false := by simp; omega
  have e205 : ((b : Int) == 205) = false := by simp; omega
  have e206 : ((b : Int) == 206) = false := by simp; omega
  have e207 : ((b : Int) == 207) = false := by simp; omega
  have e208 : ((b : Int) == 208) = false := by simp; omega
  have e209 : ((b : Int) == 209) = false := by simp; omega
  have e210 : ((b : Int) == 210) = false := by simp; omega
  have e211 : ((b : Int) == 211) = false := by simp; omega
  have e212 : ((b : Int) == 212) = false := by simp; omega
  have e213 : ((b : Int) == 213) = false := by simp; omega
  have e214 : ((b : Int) == 214) = false := by simp; omega
  have e215 : ((b : Int) == 215) = false := by simp; omega
  have e216 : ((b : Int) == 216) = false := by simp; omega
  have e217 : ((b : Int) == 217) = false := by simp; omega
  have e218 : ((b : Int) == 218) = false := by simp; omega
  have e219 : ((b : Int) == 219) = false := by simp; omega
  have e220 : ((b : Int) == 220) = false := by simp; omega
  have e221 : ((b : Int) == 221) = false := by simp; omega
  have e222 : ((b : Int) == 222) = false := by simp; omega
  have e223 : ((b : Int) == 223) = false := by simp; omega
  have i1 : (0 : Int) ≤ (b : Int) := by omega
  have i2 : (b : Int) < 128 := by omega
  go_enter Tryz.func95, Tryz.ntmps95
  go_wp2_with (fail)
  exact bodyPost_ret (res_cell3 rfl rfl (Three.new _ _ _ _ _ _)) rfl ⟨_, _, _, rfl, by simp⟩

set_option maxRecDepth 100000 in
set_option maxHeartbeats 2000000 in
theorem spec_nfixint (b : Nat) (h1 : 224 ≤ b) (h2 : b < 256) (w : World) : Calls Tryz.prog 95 #[.int .u8 (b : Nat)] w (SpecPost 8 w) := by
  have e192 : ((b : Int) == 192) = false := by simp; omega
  have e194 : ((b : Int) == 194) = false := by simp; omega
  have e195 : ((b : Int) == 195) = false := by simp; omega
  have e196 : ((b : Int) == 196) = false := by simp; omega
  have e197 : ((b : Int) == 197) = false := by simp; omega
  have e198 : ((b : Int) == 198) = false := by simp; omega
  have e199 : ((b : Int) == 199) = false := by simp; omega
  have e200 : ((b : Int) == 200) = false := by simp; omega
  have e201 : ((b : Int) == 201) = false := by simp; omega
  have e202 : ((b : Int) == 202) = false := by simp; omega
  have e203 : ((b : Int) == 203) = false := by simp; omega
  have e204 : ((b : Int) == 204) = false := by simp; omega
  have e205 : ((b : Int) == 205) = false := by simp; omega
  have e206 : ((b : Int) == 206) = false := by simp; omega
  have e207 : ((b : Int) == 207) = false := by simp; omega
  have e208 : ((b : Int) == 208) = false := by simp; omega
  have e209 : ((b : Int) == 209) = false := by simp; omega
  have e210 : ((b : Int) == 210) = false := by simp; omega
  have e211 : ((b : Int) == 211) = false := by simp; omega
  have e212 : ((b : Int) == 212) = false := by simp; omega
  have e213 : ((b : Int) == 213) = false := by simp; omega
  have e214 : ((b : Int) == 214) = false := by simp; omega
  have e215 : ((b : Int) == 215) = false := by simp; omega
  have e216 : ((b : Int) == 216) = false := by simp; omega
  have e217 : ((b : Int) == 217) = false := by simp; omega
  have e218 : ((b : Int) == 218) = false := by simp; omega
  have e219 : ((b : Int) == 219) = false := by simp; omega
  have e220 : ((b : Int) == 220) = false := by simp; omega
  have e221 : ((b : Int) == 221) = false := by simp; omega
  have e222 : ((b : Int) == 222) = false := by simp; omega
  have e223 : ((b : Int) == 223) = false := by simp; omega
  have i1 : (224 : Int) ≤ (b : Int) := by omega
  have i2 : (b : Int) < 256 := by omega
  go_enter Tryz.func95, Tryz.ntmps95
  go_wp2_with (fail)
  exact bodyPost_ret (res_cell3 rfl rfl (Three.new _ _ _ _ _ _)) rfl ⟨_, _, _, rfl, by simp⟩

set_option maxRecDepth 100000 in
set_option maxHeartbeats 2000000 in
theorem spec_fixstr (b : Nat) (h1 : 160 ≤ b) (h2 : b < 192) (w : World) : Calls Tryz.prog 95 #[.int .u8 (b : Nat)] w (SpecPost 1 w) := by
  have e192 : ((b : Int) == 192) = false := by simp; omega
  have e194 : ((b : Int) == 194) = false := by simp; omega
  have e195 : ((b : Int) == 195) = false := by simp; omega
  have e196 : ((b : Int) == 196) = false := by simp; omega
  have e197 : ((b : Int) == 197) = false := by simp; omega
  have e198 : ((b : Int) == 198) = false := by simp; omega
  have e199 : ((b : Int) == 199) = false := by simp; omega
  have e200 : ((b : Int) == 200) = false := by simp; omega
  have e201 : ((b : Int) == 201) = false := by simp; omega
  have e202 : ((b : Int) == 202) = false := by simp; omega
  have e203 : ((b : Int) == 203) = false := by simp; omega
  have e204 : ((b : Int) == 204) = false := by simp; omega
  have e205 : ((b : Int) == 205) = false := by simp; omega
  have e206 : ((b : Int) == 206) = false := by simp; omega
  have e207 : ((b : Int) == 207) = false := by simp; omega
  have e208 : ((b : Int) == 208) = false := by simp; omega
  have e209 : ((b : Int) == 209) = false := by simp; omega
  have e210 : ((b : Int) == 210) = false := by simp; omega
  have e211 : ((b : Int) == 211) = false := by simp; omega
  have e212 : ((b : Int) == 212) = false := by simp; omega
  have e213 : ((b : Int) == 213) = false := by simp; omega
  have e214 : ((b : Int) == 214) = false := by simp; omega
  have e215 : ((b : Int) == 215) = false := by simp; omega
  have e216 : ((b : Int) == 216) = false := by simp; omega
  have e217 : ((b : Int) == 217) = false := by simp; omega
  have e218 : ((b : Int) == 218) = false := by simp; omega
  have e219 : ((b : Int) == 219) = false := by simp; omega
  have e220 : ((b : Int) == 220) = false := by simp; omega
  have e221 : ((b : Int) == 221) = false := by simp; omega
  have e222 : ((b : Int) == 222) = false := by simp; omega
  have e223 : ((b : Int) == 223) = false := by simp; omega
  have i1 : (160 : Int) ≤ (b : Int) := by omega
  have i2 : (b : Int) < 192 := by omega
  go_enter Tryz.func95, Tryz.ntmps95
  go_wp2_with (go_at_call 67; refine (rfixstr_at b _ ⟨h1, h2⟩).mono ?_; rintro e w1 ⟨rfl, rfl⟩)
  exact bodyPost_ret (res_cell3 rfl rfl (Three.new _ _ _ _ _ _)) rfl ⟨_, _, _, rfl, by simp⟩

set_option maxRecDepth 100000 in
set_option maxHeartbeats 2000000 in
theorem spec_fixmap (b : Nat) (h1 : 128 ≤ b) (h2 : b < 144) (w : World) : Calls Tryz.prog 95 #[.int .u8 (b : Nat)] w (SpecPost 3 w) := by
  have e192 : ((b : Int) == 192) = false := by simp; omega
  have e194 : ((b : Int) == 194) = false := by simp; omega
  have e195 : ((b : Int) == 195) = false := by simp; omega
  have e196 : ((b : Int) == 196) = false := by simp; omega
  have e197 : ((b : Int) == 197) = false := by simp; omega
  have e198 : ((b : Int) == 198) = false := by simp; omega
  have e199 : ((b : Int) == 199) = false := by simp; omega
  have e200 : ((b : Int) == 200) = false := by simp; omega
  have e201 : ((b : Int) == 201) = false := by simp; omega
  have e202 : ((b : Int) == 202) = false := by simp; omega
  have e203 : ((b : Int) == 203) = false := by simp; omega
  have e204 : ((b : Int) == 204) = false := by simp; omega
  have e205 : ((b : Int) == 205) = false := by simp; omega
  have e206 : ((b : Int) == 206) = false := by simp; omega
  have e207 : ((b : Int) == 207) = false := by simp; omega
  have e208 : ((b : Int) == 208) = false := by simp; omega
  have e209 : ((b : Int) == 209) = false := by simp; omega
  have e210 : ((b : Int) == 210) = false := by simp; omega
  have e211 : ((b : Int) == 211) = false := by simp; omega
  have e212 : ((b : Int) == 212) = false := by simp; omega
  have e213 : ((b : Int) == 213) = false := by simp; omega
  have e214 : ((b : Int) == 214) = false := by simp; omega
  have e215 : ((b : Int) == 215) = false := by simp; omega
  have e216 : ((b : Int) == 216) = false := by simp; omega
  have e217 : ((b : Int) == 217) = false := by simp; omega
  have e218 : ((b : Int) == 218) = false := by simp; omega
  have e219 : ((b : Int) == 219) = false := by simp; omega
  have e220 : ((b : Int) == 220) = false := by simp; omega
  have e221 : ((b : Int) == 221) = false := by simp; omega
  have e222 : ((b : Int) == 222) = false := by simp; omega
  have e223 : ((b : Int) == 223) = false := by simp; omega
  have i1 : (128 : Int) ≤ (b : Int) := by omega
  have i2 : (b : Int) < 144 := by omega
  go_enter Tryz.func95, Tryz.ntmps95
  go_wp2_with (go_at_call 103; refine (rfixmap_at b _ ⟨h1, h2⟩).mono ?_; rintro e w1 ⟨rfl, rfl⟩)
  exact bodyPost_ret (res_cell3 rfl rfl (Three.new _ _ _ _ _ _)) rfl ⟨_, _, _, rfl, by simp⟩

set_option maxRecDepth 100000 in
set_option maxHeartbeats 2000000 in
theorem spec_fixarray (b : Nat) (h1 : 144 ≤ b) (h2 : b < 160) (w : World) : Calls Tryz.prog 95 #[.int .u8 (b : Nat)] w (SpecPost 4 w) := by
  have e192 : ((b : Int) == 192) = false := by simp; omega
  have e194 : ((b : Int) == 194) = false := by simp; omega
  have e195 : ((b : Int) == 195) = false := by simp; omega
  have e196 : ((b : Int) == 196) = false := by simp; omega
  have e197 : ((b : Int) == 197) = false := by simp; omega
  have e198 : ((b : Int) == 198) = false := by simp; omega
  have e199 : ((b : Int) == 199) = false := by simp; omega
  have e200 : ((b : Int) == 200) = false := by simp; omega
  have e201 : ((b : Int) == 201) = false := by simp; omega
  have e202 : ((b : Int) == 202) = false := by simp; omega
  have e203 : ((b : Int) == 203) = false := by simp; omega
  have e204 : ((b : Int) == 204) = false := by simp; omega
  have e205 : ((b : Int) == 205) = false := by simp; omega
  have e206 : ((b : Int) == 206) = false := by simp; omega
  have e207 : ((b : Int) == 207) = false := by simp; omega
  have e208 : ((b : Int) == 208) = false := by simp; omega
  have e209 : ((b : Int) == 209) = false := by simp; omega
  have e210 : ((b : Int) == 210) = false := by simp; omega
  have e211 : ((b : Int) == 211) = false := by simp; omega
  have e212 : ((b : Int) == 212) = false := by simp; omega
  have e213 : ((b : Int) == 213) = false := by simp; omega
  have e214 : ((b : Int) == 214) = false := by simp; omega
  have e215 : ((b : Int) == 215) = false := by simp; omega
  have e216 : ((b : Int) == 216) = false := by simp; omega
  have e217 : ((b : Int) == 217) = false := by simp; omega
  have e218 : ((b : Int) == 218) = false := by simp; omega
  have e219 : ((b : Int) == 219) = false := by simp; omega
  have e220 : ((b : Int) == 220) = false := by simp; omega
  have e221 : ((b : Int) == 221) = false := by simp; omega
  have e222 : ((b : Int) == 222) = false := by simp; omega
  have e223 : ((b : Int) == 223) = false := by simp; omega
  have i1 : (144 : Int) ≤ (b : Int) := by omega
  have i2 : (b : Int) < 160 := by omega
  go_enter Tryz.func95, Tryz.ntmps95
  go_wp2_with (go_at_call 122; refine (rfixarray_at b _ ⟨h1, h2⟩).mono ?_; rintro e w1 ⟨rfl, rfl⟩)
  exact bodyPost_ret (res_cell3 rfl rfl (Three.new _ _ _ _ _ _)) rfl ⟨_, _, _, rfl, by simp⟩

set_option maxRecDepth 100000 in
set_option maxHeartbeats 2000000 in
theorem bspec (b : Int) (t : Int) (w : World) (h : ∀ w, Calls Tryz.prog 95 #[.int .u8 b] w (SpecPost t w)) : Calls Tryz.prog 64 #[.int .u8 b] w (SpecPost t w) := by
  have hs := hid h
  clear h
  go_enter Tryz.func64, Tryz.ntmps64
  go_wp2_with (go_at_call 95; refine (hs.out _).mono ?_; rintro e w1 ⟨x, y, z, rfl, h⟩; have h3 := (Three.new w (.int .u8 0) (.int .i8 0) (.int .u8 0) (.int .u8 0) 121).only h (fun h => h); have H := hid ((Only.alloc (Only.refl (fun _ => False) w) _).trans h); have H3 := hid h3; obtain ⟨c0, c1, c2, c3, f0, f1, f2, f3⟩ := h3; clear h)
  exact bodyPost_ret (res_cell3 rfl rfl (H3.out.sets _ _ _ _)) rfl ⟨_, _, _, rfl, only_sets4 H.out _ _ _ _⟩

set_option maxRecDepth 100000 in
set_option maxHeartbeats 2000000 in
theorem gtype (b t : Int) (w : World) (h : ∀ w, Calls Tryz.prog 95 #[.int .u8 b] w (SpecPost t w)) : Calls Tryz.prog 46 #[.int .u8 b] w (TypePost t w) := by
  have hs := hid h
  clear h
  have hf : ∀ (x y t z : Int) (w : World), (Instr.field 121 (.agg #[.int .u8 x, .int .i8 y, .int .u8 t, .int .u8 z]) 2).run Tryz.prog w = .ok (.int .u8 t) w := fun _ _ _ _ _ => by kernel_rfl
  go_enter Tryz.func46, Tryz.ntmps46
  go_wp2_with (go_at_call 64; refine (bspec b t w hs.out).mono ?_; rintro e w1 ⟨x, y, z, rfl, h⟩; have H := hid h; clear h)
  go_ret
  exact ⟨rfl, H.out⟩
theorem type_192 (w : World) : Calls Tryz.prog 46 #[.int .u8 192] w (TypePost 10 w) := gtype _ _ w fun w => spec_192 w
theorem type_194 (w : World) : Calls Tryz.prog 46 #[.int .u8 194] w (TypePost 7 w) := gtype _ _ w fun w => spec_194 w
theorem type_195 (w : World) : Calls Tryz.prog 46 #[.int .u8 195] w (TypePost 7 w) := gtype _ _ w fun w => spec_195 w
theorem type_196 (w : World) : Calls Tryz.prog 46 #[.int .u8 196] w (TypePost 2 w) := gtype _ _ w fun w => spec_196 w
theorem type_197 (w : World) : Calls Tryz.prog 46 #[.int .u8 197] w (TypePost 2 w) := gtype _ _ w fun w => spec_197 w
theorem type_198 (w : World) : Calls Tryz.prog 46 #[.int .u8 198] w (TypePost 2 w) := gtype _ _ w fun w => spec_198 w
theorem type_204 (w : World) : Calls Tryz.prog 46 #[.int .u8 204] w (TypePost 9 w) := gtype _ _ w fun w => spec_204 w
theorem type_205 (w : World) : Calls Tryz.prog 46 #[.int .u8 205] w (TypePost 9 w) := gtype _ _ w fun w => spec_205 w
theorem type_206 (w : World) : Calls Tryz.prog 46 #[.int .u8 206] w (TypePost 9 w) := gtype _ _ w fun w => spec_206 w
theorem type_207 (w : World) : Calls Tryz.prog 46 #[.int .u8 207] w (TypePost 9 w) := gtype _ _ w fun w => spec_207 w
theorem type_208 (w : World) : Calls Tryz.prog 46 #[.int .u8 208] w (TypePost 8 w) := gtype _ _ w fun w => spec_208 w
theorem type_209 (w : World) : Calls Tryz.prog 46 #[.int .u8 209] w (TypePost 8 w) := gtype _ _ w fun w => spec_209 w
theorem type_210 (w : World) : Calls Tryz.prog 46 #[.int .u8 210] w (TypePost 8 w) := gtype _ _ w fun w => spec_210 w
theorem type_211 (w : World) : Calls Tryz.prog 46 #[.int .u8 211] w (TypePost 8 w) := gtype _ _ w fun w => spec_211 w
theorem type_217 (w : World) : Calls Tryz.prog 46 #[.int .u8 217] w (TypePost 1 w) := gtype _ _ w fun w => spec_217 w
theorem type_218 (w : World) : Calls Tryz.prog 46 #[.int .u8 218] w (TypePost 1 w) := gtype _ _ w fun w => spec_218 w
theorem type_219 (w : World) : Calls Tryz.prog 46 #[.int .u8 219] w (TypePost 1 w) := gtype _ _ w fun w => spec_219 w
theorem type_220 (w : World) : Calls Tryz.prog 46 #[.int .u8 220] w (TypePost 4 w) := gtype _ _ w fun w => spec_220 w
theorem type_221 (w : World) : Calls Tryz.prog 46 #[.int .u8 221] w (TypePost 4 w) := gtype _ _ w fun w => spec_221 w
theorem type_222 (w : World) : Calls Tryz.prog 46 #[.int .u8 222] w (TypePost 3 w) := gtype _ _ w fun w => spec_222 w
theorem type_223 (w : World) : Calls Tryz.prog 46 #[.int .u8 223] w (TypePost 3 w) := gtype _ _ w fun w => spec_223 w
theorem type_fixint (b : Nat) (h1 : 0 ≤ b) (h2 : b < 128) (w : World) : Calls Tryz.prog 46 #[.int .u8 (b : Nat)] w (TypePost 8 w) := gtype _ _ w fun w => spec_fixint b h1 h2 w
theorem type_nfixint (b : Nat) (h1 : 224 ≤ b) (h2 : b < 256) (w : World) : Calls Tryz.prog 46 #[.int .u8 (b : Nat)] w (TypePost 8 w) := gtype _ _ w fun w => spec_nfixint b h1 h2 w
theorem type_fixstr (b : Nat) (h1 : 160 ≤ b) (h2 : b < 192) (w : World) : Calls Tryz.prog 46 #[.int .u8 (b : Nat)] w (TypePost 1 w) := gtype _ _ w fun w => spec_fixstr b h1 h2 w
theorem type_fixmap (b : Nat) (h1 : 128 ≤ b) (h2 : b < 144) (w : World) : Calls Tryz.prog 46 #[.int .u8 (b : Nat)] w (TypePost 3 w) := gtype _ _ w fun w => spec_fixmap b h1 h2 w
theorem type_fixarray (b : Nat) (h1 : 144 ≤ b) (h2 : b < 160) (w : World) : Calls Tryz.prog 46 #[.int .u8 (b : Nat)] w (TypePost 4 w) := gtype _ _ w fun w => spec_fixarray b h1 h2 w
end Go.Proofs.YtbgckolcimlofaaGreatDoor
