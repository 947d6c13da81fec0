/-
  Unsigned and signed readings of these bytes; over a row that holds them.
  The predicates on a first byte (fixint, fixstr, fixmap, fixarray); for every byte.
-/
import Derived.Test.YtbgckolcimlofaaGreatDoorProg
import Derived.Test.YtbgckolcimlofaaGreatDoorT08
import Derived.Test.YtbgckolcimlofaaGreatDoorT07
import Derived.Test.YtbgckolcimlofaaGreatDoorT02
import Derived.Deep.QuietTactic
import Derived.BigQuiet
import Derived.Handy
import Derived.Deep.RegionHeld3
set_option linter.unusedVariables false
set_option linter.unusedSimpArgs false
namespace Go.Proofs.YtbgckolcimlofaaGreatDoor
open Go.RowKit YtbgckolcimlofaaGreatDoorPj
theorem InRoom.get {w : World} {F : Nat → Prop} {v : Value} {bs : List UInt8} (h : InRoom w F v bs) (h0 : 0 < bs.length) : ∃ g o cap, v = .slice (some ⟨g, o, none⟩) bs.length cap ∧ F g ∧ bs.length ≤ cap ∧ cap ≤ 4398046511104 ∧ ∀ j (h : j < bs.length), w.cell? ⟨g, o + j, none⟩ = some (.int .u8 ((bs[j].toNat : Nat) : Int)) := by
  obtain ⟨A, c, rfl, h1, h2, h3⟩ := h
  obtain ⟨g, o, rfl, hg, _⟩ := h3 0 h0
  refine ⟨g, o, c, rfl, hg, h1, h2, fun j hj => ?_⟩
  obtain ⟨g', o', e, _, hc⟩ := h3 j hj
  injection e with e
  injection e with e1 e2
  subst e1 e2
  exact hc
theorem wrap_of_mod {k : IntKind} {a b : Nat} (h : a % 2 ^ k.bits = b % 2 ^ k.bits) : k.wrap (a : Int) = k.wrap (b : Int) := by
  rw [← wrap_emod k a, ← wrap_emod k b]
  have e : ∀ x : Nat, ((x % 2 ^ k.bits : Nat) : Int) = (x : Int) % 2 ^ k.bits := fun x => by simp
  rw [← e, ← e, h]
theorem be1 (u : Nat) : be 1 u = [UInt8.ofNat u] := rfl
theorem be2 (u : Nat) : be 2 u = [UInt8.ofNat (u >>> 8), UInt8.ofNat u] := rfl
theorem be4 (u : Nat) : be 4 u = [UInt8.ofNat (u >>> 24), UInt8.ofNat (u >>> 16), UInt8.ofNat (u >>> 8), UInt8.ofNat u] := rfl
theorem be8 (u : Nat) : be 8 u = [UInt8.ofNat (u >>> 56), UInt8.ofNat (u >>> 48), UInt8.ofNat (u >>> 40), UInt8.ofNat (u >>> 32), UInt8.ofNat (u >>> 24), UInt8.ofNat (u >>> 16), UInt8.ofNat (u >>> 8), UInt8.ofNat u] := rfl

theorem getMint8_be (w : World) (F : Nat → Prop) (v : Value) (c : UInt8) (u : Nat) (h : InRoom w F v (c :: be 1 u)) : Calls Tryz.prog 111 #[v] w (fun e w' => e = .returned (.int .i8 (IntKind.i8.wrap (u : Int))) ∧ Only (fun _ => False) w w') := by
  obtain ⟨g, o, cap, rfl, _, _, _, hc⟩ := h.get (by simp [be_length])
  rw [be1] at hc ⊢
  refine (getMint8 g o _ cap w (UInt8.ofNat u).toNat (UInt8.toNat_lt _) (by simp) (by simp) (hc 1 (by simp))).mono ?_
  rintro e w' ⟨rfl, h2⟩
  refine ⟨congrArg Ending.returned (congrArg (Value.int .i8) (wrap_of_mod ?_)), h2⟩
  simp [IntKind.bits]

theorem getMuint8_be (w : World) (F : Nat → Prop) (v : Value) (c : UInt8) (u : Nat) (h : InRoom w F v (c :: be 1 u)) : Calls Tryz.prog 112 #[v] w (fun e w' => e = .returned (.int .u8 (IntKind.u8.wrap (u : Int))) ∧ Only (fun _ => False) w w') := by
  obtain ⟨g, o, cap, rfl, _, _, _, hc⟩ := h.get (by simp [be_length])
  rw [be1] at hc ⊢
  refine (getMuint8 g o _ cap w (UInt8.ofNat u).toNat (UInt8.toNat_lt _) (by simp) (by simp) (hc 1 (by simp))).mono ?_
  rintro e w' ⟨rfl, h2⟩
  refine ⟨congrArg Ending.returned (congrArg (Value.int .u8) (wrap_of_mod ?_)), h2⟩
  simp [IntKind.bits]

theorem getMint16_be (w : World) (F : Nat → Prop) (v : Value) (c : UInt8) (u : Nat) (h : InRoom w F v (c :: be 2 u)) : Calls Tryz.prog 113 #[v] w (fun e w' => e = .returned (.int .i16 (IntKind.i16.wrap (u : Int))) ∧ Only (fun _ => False) w w') := by
  obtain ⟨g, o, cap, rfl, _, _, _, hc⟩ := h.get (by simp [be_length])
  rw [be2] at hc ⊢
  refine (getMint16 g o _ cap w (UInt8.ofNat (u >>> 8)).toNat (UInt8.ofNat u).toNat (UInt8.toNat_lt _) (UInt8.toNat_lt _) (by simp) (by simp) (hc 1 (by simp)) (hc 2 (by simp))).mono ?_
  rintro e w' ⟨rfl, h2⟩
  refine ⟨congrArg Ending.returned (congrArg (Value.int .i16) (wrap_of_mod ?_)), h2⟩
  simp [IntKind.bits, Nat.shiftRight_eq_div_pow]
  omega

theorem getMuint16_be (w : World) (F : Nat → Prop) (v : Value) (c : UInt8) (u : Nat) (h : InRoom w F v (c :: be 2 u)) : Calls Tryz.prog 114 #[v] w (fun e w' => e = .returned (.int .u16 (IntKind.u16.wrap (u : Int))) ∧ Only (fun _ => False) w w') := by
  obtain ⟨g, o, cap, rfl, _, _, _, hc⟩ := h.get (by simp [be_length])
  rw [be2] at hc ⊢
  refine (getMuint16 g o _ cap w (UInt8.ofNat (u >>> 8)).toNat (UInt8.ofNat u).toNat (UInt8.toNat_lt _) (UInt8.toNat_lt _) (by simp) (by simp) (hc 1 (by simp)) (hc 2 (by simp))).mono ?_
  rintro e w' ⟨rfl, h2⟩
  refine ⟨congrArg Ending.returned (congrArg (Value.int .u16) (wrap_of_mod ?_)), h2⟩
  simp [IntKind.bits, Nat.shiftRight_eq_div_pow]
  omega

theorem getMint32_be (w : World) (F : Nat → Prop) (v : Value) (c : UInt8) (u : Nat) (h : InRoom w F v (c :: be 4 u)) : Calls Tryz.prog 115 #[v] w (fun e w' => e = .returned (.int .i32 (IntKind.i32.wrap (u : Int))) ∧ Only (fun _ => False) w w') := by
  obtain ⟨g, o, cap, rfl, _, _, _, hc⟩ := h.get (by simp [be_length])
  rw [be4] at hc ⊢
  refine (getMint32 g o _ cap w (UInt8.ofNat (u >>> 24)).toNat (UInt8.ofNat (u >>> 16)).toNat (UInt8.ofNat (u >>> 8)).toNat (UInt8.ofNat u).toNat (UInt8.toNat_lt _) (UInt8.toNat_lt _) (UInt8.toNat_lt _) (UInt8.toNat_lt _) (by simp) (by simp) (hc 1 (by simp)) (hc 2 (by simp)) (hc 3 (by simp)) (hc 4 (by simp))).mono ?_
  rintro e w' ⟨rfl, h2⟩
  refine ⟨congrArg Ending.returned (congrArg (Value.int .i32) (wrap_of_mod ?_)), h2⟩
  simp [IntKind.bits, Nat.shiftRight_eq_div_pow]
  omega

theorem getMuint32_be (w : World) (F : Nat → Prop) (v : Value) (c : UInt8) (u : Nat) (h : InRoom w F v (c :: be 4 u)) : Calls Tryz.prog 116 #[v] w (fun e w' => e = .returned (.int .u32 (IntKind.u32.wrap (u : Int))) ∧ Only (fun _ => False) w w') := by
  obtain ⟨g, o, cap, rfl, _, _, _, hc⟩ := h.get (by simp [be_length])
  rw [be4] at hc ⊢
  refine (getMuint32 g o _ cap w (UInt8.ofNat (u >>> 24)).toNat (UInt8.ofNat (u >>> 16)).toNat (UInt8.ofNat (u >>> 8)).toNat (UInt8.ofNat u).toNat (UInt8.toNat_lt _) (UInt8.toNat_lt _) (UInt8.toNat_lt _) (UInt8.toNat_lt _) (by simp) (by simp) (hc 1 (by simp)) (hc 2 (by simp)) (hc 3 (by simp)) (hc 4 (by simp))).mono ?_
  rintro e w' ⟨rfl, h2⟩
  refine ⟨congrArg Ending.returned (congrArg (Value.int .u32) (wrap_of_mod ?_)), h2⟩
  simp [IntKind.bits, Nat.shiftRight_eq_div_pow]
  omega

theorem getMint64_be (w : World) (F : Nat → Prop) (v : Value) (c : UInt8) (u : Nat) (h : InRoom w F v (c :: be 8 u)) : Calls Tryz.prog 117 #[v] w (fun e w' => e = .returned (.int .i64 (IntKind.i64.wrap (u : Int))) ∧ Only (fun _ => False) w w') := by
  obtain ⟨g, o, cap, rfl, _, _, _, hc⟩ := h.get (by simp [be_length])
  rw [be8] at hc ⊢
  refine (getMint64 g o _ cap w (UInt8.ofNat (u >>> 56)).toNat (UInt8.ofNat (u >>> 48)).toNat (UInt8.ofNat (u >>> 40)).toNat (UInt8.ofNat (u >>> 32)).toNat (UInt8.ofNat (u >>> 24)).toNat (UInt8.ofNat (u >>> 16)).toNat (UInt8.ofNat (u >>> 8)).toNat (UInt8.ofNat u).toNat (UInt8.toNat_lt _) (UInt8.toNat_lt _) (UInt8.toNat_lt _) (UInt8.toNat_lt _) (UInt8.toNat_lt _) (UInt8.toNat_lt _) (UInt8.toNat_lt _) (UInt8.toNat_lt _) (by simp) (by simp) (hc 1 (by simp)) (hc 2 (by simp)) (hc 3 (by simp)) (hc 4 (by simp)) (hc 5 (by simp)) (hc 6 (by simp)) (hc 7 (by simp)) (hc 8 (by simp))).mono ?_
  rintro e w' ⟨rfl, h2⟩
  refine ⟨congrArg Ending.returned (congrArg (Value.int .i64) (wrap_of_mod ?_)), h2⟩
  simp [IntKind.bits, Nat.shiftRight_eq_div_pow]
  omega

theorem getMuint64_be (w : World) (F : Nat → Prop) (v : Value) (c : UInt8) (u : Nat) (h : InRoom w F v (c :: be 8 u)) : Calls Tryz.prog 118 #[v] w (fun e w' => e = .returned (.int .u64 (IntKind.u64.wrap (u : Int))) ∧ Only (fun _ => False) w w') := by
  obtain ⟨g, o, cap, rfl, _, _, _, hc⟩ := h.get (by simp [be_length])
  rw [be8] at hc ⊢
  refine (getMuint64 g o _ cap w (UInt8.ofNat (u >>> 56)).toNat (UInt8.ofNat (u >>> 48)).toNat (UInt8.ofNat (u >>> 40)).toNat (UInt8.ofNat (u >>> 32)).toNat (UInt8.ofNat (u >>> 24)).toNat (UInt8.ofNat (u >>> 16)).toNat (UInt8.ofNat (u >>> 8)).toNat (UInt8.ofNat u).toNat (UInt8.toNat_lt _) (UInt8.toNat_lt _) (UInt8.toNat_lt _) (UInt8.toNat_lt _) (UInt8.toNat_lt _) (UInt8.toNat_lt _) (UInt8.toNat_lt _) (UInt8.toNat_lt _) (by simp) (by simp) (hc 1 (by simp)) (hc 2 (by simp)) (hc 3 (by simp)) (hc 4 (by simp)) (hc 5 (by simp)) (hc 6 (by simp)) (hc 7 (by simp)) (hc 8 (by simp))).mono ?_
  rintro e w' ⟨rfl, h2⟩
  refine ⟨congrArg Ending.returned (congrArg (Value.int .u64) (wrap_of_mod ?_)), h2⟩
  simp [IntKind.bits, Nat.shiftRight_eq_div_pow]
  omega

theorem beU16_be (w : World) (F : Nat → Prop) (v : Value) (u : Nat) (h : InRoom w F v (be 2 u)) : Calls Tryz.prog 70 #[.agg #[], v] w (fun e w' => e = .returned (.int .u16 (IntKind.u16.wrap (u : Int))) ∧ Only (fun _ => False) w w') := by
  obtain ⟨g, o, cap, rfl, _, _, _, hc⟩ := h.get (by simp [be_length])
  rw [be2] at hc ⊢
  refine (beU16 g o _ cap w (UInt8.ofNat (u >>> 8)).toNat (UInt8.ofNat u).toNat (UInt8.toNat_lt _) (UInt8.toNat_lt _) (by simp) (by simp) (hc 0 (by simp)) (hc 1 (by simp))).mono ?_
  rintro e w' ⟨rfl, h2⟩
  refine ⟨congrArg Ending.returned (congrArg (Value.int .u16) (wrap_of_mod ?_)), h2⟩
  simp [IntKind.bits, Nat.shiftRight_eq_div_pow]
  omega

theorem beU32_be (w : World) (F : Nat → Prop) (v : Value) (u : Nat) (h : InRoom w F v (be 4 u)) : Calls Tryz.prog 71 #[.agg #[], v] w (fun e w' => e = .returned (.int .u32 (IntKind.u32.wrap (u : Int))) ∧ Only (fun _ => False) w w') := by
  obtain ⟨g, o, cap, rfl, _, _, _, hc⟩ := h.get (by simp [be_length])
  rw [be4] at hc ⊢
  refine (beU32 g o _ cap w (UInt8.ofNat (u >>> 24)).toNat (UInt8.ofNat (u >>> 16)).toNat (UInt8.ofNat (u >>> 8)).toNat (UInt8.ofNat u).toNat (UInt8.toNat_lt _) (UInt8.toNat_lt _) (UInt8.toNat_lt _) (UInt8.toNat_lt _) (by simp) (by simp) (hc 0 (by simp)) (hc 1 (by simp)) (hc 2 (by simp)) (hc 3 (by simp))).mono ?_
  rintro e w' ⟨rfl, h2⟩
  refine ⟨congrArg Ending.returned (congrArg (Value.int .u32) (wrap_of_mod ?_)), h2⟩
  simp [IntKind.bits, Nat.shiftRight_eq_div_pow]
  omega
end Go.Proofs.YtbgckolcimlofaaGreatDoor
namespace Go.Proofs.YtbgckolcimlofaaGreatDoor
open Go.RowKit YtbgckolcimlofaaGreatDoorPj

set_option maxRecDepth 100000 in
theorem isfixstr_key : ∀ b : Fin 256, (bits .and .u8 (b.val : Int) 224 == 160) = decide (160 ≤ b.val ∧ b.val < 192) := by decide
theorem isfixstr_b (b : Nat) (hb : b < 256) (w : World) : Calls Tryz.prog 66 #[.int .u8 (b : Nat)] w (fun e w' => e = .returned (.bool (decide (160 ≤ b ∧ b < 192))) ∧ w = w') := by
  have hk := hid (isfixstr_key ⟨b, hb⟩)
  go_enter Tryz.func66, Tryz.ntmps66
  go_wp2
  go_ret
  exact ⟨congrArg Ending.returned (congrArg Value.bool (hk.out.trans (by simp [hb]))), rfl⟩
theorem isfixstr_t (b : Nat) (w : World) (h : 160 ≤ b ∧ b < 192) : Calls Tryz.prog 66 #[.int .u8 (b : Nat)] w (fun e w' => e = .returned (.bool true) ∧ w = w') :=
  (isfixstr_b b (by omega) w).mono fun e w' ⟨h1, h2⟩ => ⟨by rw [h1, decide_eq_true h], h2⟩
theorem isfixstr_f (b : Nat) (hb : b < 256) (w : World) (h : b < 160 ∨ 192 ≤ b) : Calls Tryz.prog 66 #[.int .u8 (b : Nat)] w (fun e w' => e = .returned (.bool false) ∧ w = w') :=
  (isfixstr_b b hb w).mono fun e w' ⟨h1, h2⟩ => ⟨by rw [h1, decide_eq_false (by omega)], h2⟩

set_option maxRecDepth 100000 in
theorem isfixmap_key : ∀ b : Fin 256, (bits .and .u8 (b.val : Int) 240 == 128) = decide (128 ≤ b.val ∧ b.val < 144) := by decide
theorem isfixmap_b (b : Nat) (hb : b < 256) (w : World) : Calls Tryz.prog 102 #[.int .u8 (b : Nat)] w (fun e w' => e = .returned (.bool (decide (128 ≤ b ∧ b < 144))) ∧ w = w') := by
  have hk := hid (isfixmap_key ⟨b, hb⟩)
  go_enter Tryz.func102, Tryz.ntmps102
  go_wp2
  go_ret
  exact ⟨congrArg Ending.returned (congrArg Value.bool (hk.out.trans (by simp [hb]))), rfl⟩
theorem isfixmap_t (b : Nat) (w : World) (h : 128 ≤ b ∧ b < 144) : Calls Tryz.prog 102 #[.int .u8 (b : Nat)] w (fun e w' => e = .returned (.bool true) ∧ w = w') :=
  (isfixmap_b b (by omega) w).mono fun e w' ⟨h1, h2⟩ => ⟨by rw [h1, decide_eq_true h], h2⟩
theorem isfixmap_f (b : Nat) (hb : b < 256) (w : World) (h : b < 128 ∨ 144 ≤ b) : Calls Tryz.prog 102 #[.int .u8 (b : Nat)] w (fun e w' => e = .returned (.bool false) ∧ w = w') :=
  (isfixmap_b b hb w).mono fun e w' ⟨h1, h2⟩ => ⟨by rw [h1, decide_eq_false (by omega)], h2⟩

set_option maxRecDepth 100000 in
theorem isfixarray_key : ∀ b : Fin 256, (bits .and .u8 (b.val : Int) 240 == 144) = decide (144 ≤ b.val ∧ b.val < 160) := by decide
theorem isfixarray_b (b : Nat) (hb : b < 256) (w : World) : Calls Tryz.prog 121 #[.int .u8 (b : Nat)] w (fun e w' => e = .returned (.bool (decide (144 ≤ b ∧ b < 160))) ∧ w = w') := by
  have hk := hid (isfixarray_key ⟨b, hb⟩)
  go_enter Tryz.func121, Tryz.ntmps121
  go_wp2
  go_ret
  exact ⟨congrArg Ending.returned (congrArg Value.bool (hk.out.trans (by simp [hb]))), rfl⟩
theorem isfixarray_t (b : Nat) (w : World) (h : 144 ≤ b ∧ b < 160) : Calls Tryz.prog 121 #[.int .u8 (b : Nat)] w (fun e w' => e = .returned (.bool true) ∧ w = w') :=
  (isfixarray_b b (by omega) w).mono fun e w' ⟨h1, h2⟩ => ⟨by rw [h1, decide_eq_true h], h2⟩
theorem isfixarray_f (b : Nat) (hb : b < 256) (w : World) (h : b < 144 ∨ 160 ≤ b) : Calls Tryz.prog 121 #[.int .u8 (b : Nat)] w (fun e w' => e = .returned (.bool false) ∧ w = w') :=
  (isfixarray_b b hb w).mono fun e w' ⟨h1, h2⟩ => ⟨by rw [h1, decide_eq_false (by omega)], h2⟩

set_option maxRecDepth 100000 in
theorem isnfixint_key : ∀ b : Fin 256, (bits .and .u8 (b.val : Int) 224 == 224) = decide (224 ≤ b.val ∧ b.val < 256) := by decide
theorem isnfixint_b (b : Nat) (hb : b < 256) (w : World) : Calls Tryz.prog 109 #[.int .u8 (b : Nat)] w (fun e w' => e = .returned (.bool (decide (224 ≤ b ∧ b < 256))) ∧ w = w') := by
  have hk := hid (isnfixint_key ⟨b, hb⟩)
  go_enter Tryz.func109, Tryz.ntmps109
  go_wp2
  go_ret
  exact ⟨congrArg Ending.returned (congrArg Value.bool (hk.out.trans (by simp [hb]))), rfl⟩
theorem isnfixint_t (b : Nat) (w : World) (h : 224 ≤ b ∧ b < 256) : Calls Tryz.prog 109 #[.int .u8 (b : Nat)] w (fun e w' => e = .returned (.bool true) ∧ w = w') :=
  (isnfixint_b b (by omega) w).mono fun e w' ⟨h1, h2⟩ => ⟨by rw [h1, decide_eq_true h], h2⟩
theorem isnfixint_f (b : Nat) (hb : b < 256) (w : World) (h : b < 224 ∨ 256 ≤ b) : Calls Tryz.prog 109 #[.int .u8 (b : Nat)] w (fun e w' => e = .returned (.bool false) ∧ w = w') :=
  (isnfixint_b b hb w).mono fun e w' ⟨h1, h2⟩ => ⟨by rw [h1, decide_eq_false (by omega)], h2⟩

theorem isfixint_b (b : Nat) (hb : b < 256) (w : World) : Calls Tryz.prog 107 #[.int .u8 (b : Nat)] w (fun e w' => e = .returned (.bool (decide (b < 128))) ∧ w = w') := by
  go_enter Tryz.func107, Tryz.ntmps107
  go_wp2
  go_ret
  refine ⟨congrArg Ending.returned (congrArg Value.bool ?_), rfl⟩
  by_cases h : b < 128
  · rw [decide_eq_true h]
    have : (b : Int) / 128 = 0 := by omega
    simp [this]
  · rw [decide_eq_false h]
    have : (b : Int) / 128 = 1 := by omega
    simp [this]
theorem isfixint_t (b : Nat) (w : World) (h : b < 128) : Calls Tryz.prog 107 #[.int .u8 (b : Nat)] w (fun e w' => e = .returned (.bool true) ∧ w = w') :=
  (isfixint_b b (by omega) w).mono fun e w' ⟨h1, h2⟩ => ⟨by rw [h1, decide_eq_true h], h2⟩
theorem isfixint_f (b : Nat) (hb : b < 256) (w : World) (h : 128 ≤ b) : Calls Tryz.prog 107 #[.int .u8 (b : Nat)] w (fun e w' => e = .returned (.bool false) ∧ w = w') :=
  (isfixint_b b hb w).mono fun e w' ⟨h1, h2⟩ => ⟨by rw [h1, decide_eq_false (by omega)], h2⟩
theorem rfixint (b : Nat) (w : World) : Calls Tryz.prog 108 #[.int .u8 (b : Nat)] w (fun e w' => e = .returned (.int .u8 (b : Nat)) ∧ w = w') := by
  go_enter Tryz.func108, Tryz.ntmps108
  go_wp2
  go_ret
  exact ⟨rfl, rfl⟩
theorem rnfixint (b : Nat) (hb : 224 ≤ b ∧ b < 256) (w : World) : Calls Tryz.prog 110 #[.int .u8 (b : Nat)] w (fun e w' => e = .returned (.int .i8 ((b : Int) - 256)) ∧ w = w') := by
  obtain ⟨h1, h2⟩ := hb
  go_enter Tryz.func110, Tryz.ntmps110
  go_wp2
  go_ret
  refine ⟨congrArg Ending.returned (congrArg (Value.int .i8) ?_), rfl⟩
  simp [IntKind.wrap, IntKind.bits, IntKind.signed]
  omega

theorem rfixstr_key : ∀ n : Fin 32, bits .and .u8 ((160 + n.val : Nat) : Int) 31 = (n.val : Int) := by decide
theorem rfixstr (n : Nat) (hn : n < 32) (w : World) : Calls Tryz.prog 67 #[.int .u8 ((160 + n : Nat) : Int)] w (fun e w' => e = .returned (.int .u8 (n : Nat)) ∧ w = w') := by
  have hk := hid (rfixstr_key ⟨n, hn⟩)
  obtain ⟨b, hb⟩ : ∃ b, b = 160 + n := ⟨_, rfl⟩
  have HB := hid hb
  rw [← hb]
  clear hb
  go_enter Tryz.func67, Tryz.ntmps67
  go_wp2
  go_ret
  have := hk.out
  rw [HB.out]
  exact ⟨congrArg Ending.returned (congrArg (Value.int .u8) this), rfl⟩

theorem rfixmap_key : ∀ n : Fin 16, bits .and .u8 ((128 + n.val : Nat) : Int) 15 = (n.val : Int) := by decide
theorem rfixmap (n : Nat) (hn : n < 16) (w : World) : Calls Tryz.prog 103 #[.int .u8 ((128 + n : Nat) : Int)] w (fun e w' => e = .returned (.int .u8 (n : Nat)) ∧ w = w') := by
  have hk := hid (rfixmap_key ⟨n, hn⟩)
  obtain ⟨b, hb⟩ : ∃ b, b = 128 + n := ⟨_, rfl⟩
  have HB := hid hb
  rw [← hb]
  clear hb
  go_enter Tryz.func103, Tryz.ntmps103
  go_wp2
  go_ret
  have := hk.out
  rw [HB.out]
  exact ⟨congrArg Ending.returned (congrArg (Value.int .u8) this), rfl⟩

theorem rfixarray_key : ∀ n : Fin 16, bits .and .u8 ((144 + n.val : Nat) : Int) 15 = (n.val : Int) := by decide
theorem rfixarray (n : Nat) (hn : n < 16) (w : World) : Calls Tryz.prog 122 #[.int .u8 ((144 + n : Nat) : Int)] w (fun e w' => e = .returned (.int .u8 (n : Nat)) ∧ w = w') := by
  have hk := hid (rfixarray_key ⟨n, hn⟩)
  obtain ⟨b, hb⟩ : ∃ b, b = 144 + n := ⟨_, rfl⟩
  have HB := hid hb
  rw [← hb]
  clear hb
  go_enter Tryz.func122, Tryz.ntmps122
  go_wp2
  go_ret
  have := hk.out
  rw [HB.out]
  exact ⟨congrArg Ending.returned (congrArg (Value.int .u8) this), rfl⟩
end Go.Proofs.YtbgckolcimlofaaGreatDoor
