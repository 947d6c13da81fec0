/-
  ReadInt64 and ReadUint64; where a written number lies ahead.
  A byte appended to a row; within the bound.
-/
import Derived.Test.YtbgckolcimlofaaGreatDoorProg
import Derived.Test.YtbgckolcimlofaaGreatDoorT11
import Derived.Test.YtbgckolcimlofaaGreatDoorT03
import Derived.Deep.QuietTactic
import Derived.BigQuiet
import Derived.Deep.LoopGhost
import Derived.Deep.DeepCutAuto
import Derived.Handy
import Derived.StillTailTactics
import Derived.Deep.RegionHeld3
set_option linter.unusedVariables false
set_option linter.unusedSimpArgs false
namespace Go.Proofs.YtbgckolcimlofaaGreatDoor
open Go.RowKit YtbgckolcimlofaaGreatDoorPj
set_option maxRecDepth 100000 in
set_option maxHeartbeats 2000000 in
theorem readInt_fix (m : Nat) (b : UInt8) (hb : b.toNat < 128) (F : Nat → Prop) (s : Nat) (r : List UInt8) (w w0 : World) (h : Went F s (b :: r) w0 w) (c0 : w.cell? ⟨m, 0, none⟩ = some (.pointer (some ⟨s, 0, none⟩))) (hm : m < w0.heap.size) (hF : ¬ F m) :
    Calls Tryz.prog 80 #[.pointer (some ⟨m, 0, none⟩)] w (GotW F s r (.tuple #[.int .i64 (b.toNat : Int), .nilIface]) w0) := by
  have HW := hid h
  have HC : Hid (∀ a w1, Went F s a w0 w1 → w1.cell? ⟨m, 0, none⟩ = some (.pointer (some ⟨s, 0, none⟩))) := hid fun a w1 h1 => (h1.cell hm hF).trans ((h.cell hm hF).symm.trans c0)
  clear h
  go_enter Tryz.func80, Tryz.ntmps80
  go_wp2_with (first
    | (go_at_call 45; refine (peekByte_w HW.out).mono ?_; rintro e w1 ⟨rfl, h1⟩; have k0 := HC.out _ _ h1; have H1 := hid h1; clear h1)
    | (go_at_call 107; refine (isfixint_t b.toNat _ hb).mono ?_; rintro e w' ⟨rfl, rfl⟩)
    | (go_at_call 108; refine (rfixint b.toNat _).mono ?_; rintro e w' ⟨rfl, rfl⟩)
    | (go_at_call 68; refine (skip_w (n := 1) H1.out (by simp)).mono ?_; rintro e w2 ⟨rfl, h2⟩; have H2 := hid h2; clear h2))
  go_ret2
  exact ⟨rfl, H2.out⟩
set_option maxRecDepth 100000 in
set_option maxHeartbeats 2000000 in
theorem readInt_nfix (m : Nat) (b : UInt8) (hb : 224 ≤ b.toNat) (F : Nat → Prop) (s : Nat) (r : List UInt8) (w w0 : World) (h : Went F s (b :: r) w0 w) (c0 : w.cell? ⟨m, 0, none⟩ = some (.pointer (some ⟨s, 0, none⟩))) (hm : m < w0.heap.size) (hF : ¬ F m) :
    Calls Tryz.prog 80 #[.pointer (some ⟨m, 0, none⟩)] w (GotW F s r (.tuple #[.int .i64 ((b.toNat : Int) - 256), .nilIface]) w0) := by
  have hb2 := b.toNat_lt
  have HW := hid h
  have HC : Hid (∀ a w1, Went F s a w0 w1 → w1.cell? ⟨m, 0, none⟩ = some (.pointer (some ⟨s, 0, none⟩))) := hid fun a w1 h1 => (h1.cell hm hF).trans ((h.cell hm hF).symm.trans c0)
  clear h
  go_enter Tryz.func80, Tryz.ntmps80
  go_wp2_with (first
    | (go_at_call 45; refine (peekByte_w HW.out).mono ?_; rintro e w1 ⟨rfl, h1⟩; have k0 := HC.out _ _ h1; have H1 := hid h1; clear h1)
    | (go_at_call 107; refine (isfixint_f b.toNat hb2 _ (by omega)).mono ?_; rintro e w' ⟨rfl, rfl⟩)
    | (go_at_call 109; refine (isnfixint_t b.toNat _ ⟨hb, hb2⟩).mono ?_; rintro e w' ⟨rfl, rfl⟩)
    | (go_at_call 110; refine (rnfixint b.toNat ⟨hb, hb2⟩ _).mono ?_; rintro e w' ⟨rfl, rfl⟩)
    | (go_at_call 68; refine (skip_w (n := 1) H1.out (by simp)).mono ?_; rintro e w2 ⟨rfl, h2⟩; have H2 := hid h2; clear h2))
  go_ret2
  exact ⟨rfl, H2.out⟩
set_option maxRecDepth 100000 in
set_option maxHeartbeats 2000000 in
theorem readInt_208 (m u : Nat) (F : Nat → Prop) (s : Nat) (r : List UInt8) (w w0 : World) (h : Went F s ((208 :: be 1 u) ++ r) w0 w) (c0 : w.cell? ⟨m, 0, none⟩ = some (.pointer (some ⟨s, 0, none⟩))) (hm : m < w0.heap.size) (hF : ¬ F m) :
    Calls Tryz.prog 80 #[.pointer (some ⟨m, 0, none⟩)] w (GotW F s r (.tuple #[.int .i64 (IntKind.i8.wrap (u : Int)), .nilIface]) w0) := by
  have HW := hid h
  have HC : Hid (∀ a w1, Went F s a w0 w1 → w1.cell? ⟨m, 0, none⟩ = some (.pointer (some ⟨s, 0, none⟩))) := hid fun a w1 h1 => (h1.cell hm hF).trans ((h.cell hm hF).symm.trans c0)
  clear h
  have hz : -9223372036854775808 ≤ IntKind.i8.wrap (u : Int) ∧ IntKind.i8.wrap (u : Int) ≤ 9223372036854775807 := by simp [IntKind.wrap, IntKind.bits, IntKind.signed]; split <;> omega
  obtain ⟨hz1, hz2⟩ := hz
  generalize hZ : IntKind.i8.wrap (u : Int) = z at hz1 hz2 ⊢
  have HZ := hid hZ
  clear hZ
  go_enter Tryz.func80, Tryz.ntmps80
  go_wp2_with (first
    | (go_at_call 45; refine (peekByte_w (b := 208) HW.out).mono ?_; rintro e w1 ⟨rfl, h1⟩; have k0 := HC.out _ _ h1; have H1 := hid h1; clear h1)
    | (go_at_call 107; refine (isfixint_f 208 (by decide) _ (by decide)).mono ?_; rintro e w' ⟨rfl, rfl⟩)
    | (go_at_call 109; refine (isnfixint_f 208 (by decide) _ (by decide)).mono ?_; rintro e w' ⟨rfl, rfl⟩)
    | (go_at_call 69; refine (next_w (bs := 208 :: be 1 u) (n := 2) H1.out (by simp [be_length])).mono ?_; rintro e w2 ⟨v, F2, rfl, j0, j1, j2, j3⟩; have J0 := hid j0; have J : Hid (Went F s r w0 w2) := hid ⟨F2, j1, j2, j3⟩; clear j0 j1 j2 j3)
    | (go_at_call 111; refine (getMint8_be _ F2 v 208 u J0.out).mono ?_; rintro e w3 ⟨rfl, q1⟩; rw [HZ.out]; have H3 := hid (J.out.only q1); clear q1))
  go_ret2
  exact ⟨rfl, H3.out⟩
set_option maxRecDepth 100000 in
set_option maxHeartbeats 2000000 in
theorem readInt_209 (m u : Nat) (F : Nat → Prop) (s : Nat) (r : List UInt8) (w w0 : World) (h : Went F s ((209 :: be 2 u) ++ r) w0 w) (c0 : w.cell? ⟨m, 0, none⟩ = some (.pointer (some ⟨s, 0, none⟩))) (hm : m < w0.heap.size) (hF : ¬ F m) :
    Calls Tryz.prog 80 #[.pointer (some ⟨m, 0, none⟩)] w (GotW F s r (.tuple #[.int .i64 (IntKind.i16.wrap (u : Int)), .nilIface]) w0) := by
  have HW := hid h
  have HC : Hid (∀ a w1, Went F s a w0 w1 → w1.cell? ⟨m, 0, none⟩ = some (.pointer (some ⟨s, 0, none⟩))) := hid fun a w1 h1 => (h1.cell hm hF).trans ((h.cell hm hF).symm.trans c0)
  clear h
  have hz : -9223372036854775808 ≤ IntKind.i16.wrap (u : Int) ∧ IntKind.i16.wrap (u : Int) ≤ 9223372036854775807 := by simp [IntKind.wrap, IntKind.bits, IntKind.signed]; split <;> omega
  obtain ⟨hz1, hz2⟩ := hz
  generalize hZ : IntKind.i16.wrap (u : Int) = z at hz1 hz2 ⊢
  have HZ := hid hZ
  clear hZ
  go_enter Tryz.func80, Tryz.ntmps80
  go_wp2_with (first
    | (go_at_call 45; refine (peekByte_w (b := 209) HW.out).mono ?_; rintro e w1 ⟨rfl, h1⟩; have k0 := HC.out _ _ h1; have H1 := hid h1; clear h1)
    | (go_at_call 107; refine (isfixint_f 209 (by decide) _ (by decide)).mono ?_; rintro e w' ⟨rfl, rfl⟩)
    | (go_at_call 109; refine (isnfixint_f 209 (by decide) _ (by decide)).mono ?_; rintro e w' ⟨rfl, rfl⟩)
    | (go_at_call 69; refine (next_w (bs := 209 :: be 2 u) (n := 3) H1.out (by simp [be_length])).mono ?_; rintro e w2 ⟨v, F2, rfl, j0, j1, j2, j3⟩; have J0 := hid j0; have J : Hid (Went F s r w0 w2) := hid ⟨F2, j1, j2, j3⟩; clear j0 j1 j2 j3)
    | (go_at_call 113; refine (getMint16_be _ F2 v 209 u J0.out).mono ?_; rintro e w3 ⟨rfl, q1⟩; rw [HZ.out]; have H3 := hid (J.out.only q1); clear q1))
  go_ret2
  exact ⟨rfl, H3.out⟩
set_option maxRecDepth 100000 in
set_option maxHeartbeats 2000000 in
theorem readInt_210 (m u : Nat) (F : Nat → Prop) (s : Nat) (r : List UInt8) (w w0 : World) (h : Went F s ((210 :: be 4 u) ++ r) w0 w) (c0 : w.cell? ⟨m, 0, none⟩ = some (.pointer (some ⟨s, 0, none⟩))) (hm : m < w0.heap.size) (hF : ¬ F m) :
    Calls Tryz.prog 80 #[.pointer (some ⟨m, 0, none⟩)] w (GotW F s r (.tuple #[.int .i64 (IntKind.i32.wrap (u : Int)), .nilIface]) w0) := by
  have HW := hid h
  have HC : Hid (∀ a w1, Went F s a w0 w1 → w1.cell? ⟨m, 0, none⟩ = some (.pointer (some ⟨s, 0, none⟩))) := hid fun a w1 h1 => (h1.cell hm hF).trans ((h.cell hm hF).symm.trans c0)
  clear h
  have hz : -9223372036854775808 ≤ IntKind.i32.wrap (u : Int) ∧ IntKind.i32.wrap (u : Int) ≤ 9223372036854775807 := by simp [IntKind.wrap, IntKind.bits, IntKind.signed]; split <;> omega
  obtain ⟨hz1, hz2⟩ := hz
  generalize hZ : IntKind.i32.wrap (u : Int) = z at hz1 hz2 ⊢
  have HZ := hid hZ
  clear hZ
  go_enter Tryz.func80, Tryz.ntmps80
  go_wp2_with (first
    | (go_at_call 45; refine (peekByte_w (b := 210) HW.out).mono ?_; rintro e w1 ⟨rfl, h1⟩; have k0 := HC.out _ _ h1; have H1 := hid h1; clear h1)
    | (go_at_call 107; refine (isfixint_f 210 (by decide) _ (by decide)).mono ?_; rintro e w' ⟨rfl, rfl⟩)
    | (go_at_call 109; refine (isnfixint_f 210 (by decide) _ (by decide)).mono ?_; rintro e w' ⟨rfl, rfl⟩)
    | (go_at_call 69; refine (next_w (bs := 210 :: be 4 u) (n := 5) H1.out (by simp [be_length])).mono ?_; rintro e w2 ⟨v, F2, rfl, j0, j1, j2, j3⟩; have J0 := hid j0; have J : Hid (Went F s r w0 w2) := hid ⟨F2, j1, j2, j3⟩; clear j0 j1 j2 j3)
    | (go_at_call 115; refine (getMint32_be _ F2 v 210 u J0.out).mono ?_; rintro e w3 ⟨rfl, q1⟩; rw [HZ.out]; have H3 := hid (J.out.only q1); clear q1))
  go_ret2
  exact ⟨rfl, H3.out⟩
set_option maxRecDepth 100000 in
set_option maxHeartbeats 2000000 in
theorem readInt_211 (m u : Nat) (F : Nat → Prop) (s : Nat) (r : List UInt8) (w w0 : World) (h : Went F s ((211 :: be 8 u) ++ r) w0 w) (c0 : w.cell? ⟨m, 0, none⟩ = some (.pointer (some ⟨s, 0, none⟩))) (hm : m < w0.heap.size) (hF : ¬ F m) :
    Calls Tryz.prog 80 #[.pointer (some ⟨m, 0, none⟩)] w (GotW F s r (.tuple #[.int .i64 (IntKind.i64.wrap (u : Int)), .nilIface]) w0) := by
  have HW := hid h
  have HC : Hid (∀ a w1, Went F s a w0 w1 → w1.cell? ⟨m, 0, none⟩ = some (.pointer (some ⟨s, 0, none⟩))) := hid fun a w1 h1 => (h1.cell hm hF).trans ((h.cell hm hF).symm.trans c0)
  clear h
  have hz : -9223372036854775808 ≤ IntKind.i64.wrap (u : Int) ∧ IntKind.i64.wrap (u : Int) ≤ 9223372036854775807 := by simp [IntKind.wrap, IntKind.bits, IntKind.signed]; split <;> omega
  obtain ⟨hz1, hz2⟩ := hz
  generalize hZ : IntKind.i64.wrap (u : Int) = z at hz1 hz2 ⊢
  have HZ := hid hZ
  clear hZ
  go_enter Tryz.func80, Tryz.ntmps80
  go_wp2_with (first
    | (go_at_call 45; refine (peekByte_w (b := 211) HW.out).mono ?_; rintro e w1 ⟨rfl, h1⟩; have k0 := HC.out _ _ h1; have H1 := hid h1; clear h1)
    | (go_at_call 107; refine (isfixint_f 211 (by decide) _ (by decide)).mono ?_; rintro e w' ⟨rfl, rfl⟩)
    | (go_at_call 109; refine (isnfixint_f 211 (by decide) _ (by decide)).mono ?_; rintro e w' ⟨rfl, rfl⟩)
    | (go_at_call 69; refine (next_w (bs := 211 :: be 8 u) (n := 9) H1.out (by simp [be_length])).mono ?_; rintro e w2 ⟨v, F2, rfl, j0, j1, j2, j3⟩; have J0 := hid j0; have J : Hid (Went F s r w0 w2) := hid ⟨F2, j1, j2, j3⟩; clear j0 j1 j2 j3)
    | (go_at_call 117; refine (getMint64_be _ F2 v 211 u J0.out).mono ?_; rintro e w3 ⟨rfl, q1⟩; rw [HZ.out]; have H3 := hid (J.out.only q1); clear q1))
  go_ret2
  exact ⟨rfl, H3.out⟩
set_option maxRecDepth 100000 in
set_option maxHeartbeats 2000000 in
theorem readUint_204 (m u : Nat) (F : Nat → Prop) (s : Nat) (r : List UInt8) (w w0 : World) (h : Went F s ((204 :: be 1 u) ++ r) w0 w) (c0 : w.cell? ⟨m, 0, none⟩ = some (.pointer (some ⟨s, 0, none⟩))) (hm : m < w0.heap.size) (hF : ¬ F m) :
    Calls Tryz.prog 82 #[.pointer (some ⟨m, 0, none⟩)] w (GotW F s r (.tuple #[.int .u64 (IntKind.u8.wrap (u : Int)), .nilIface]) w0) := by
  have HW := hid h
  have HC : Hid (∀ a w1, Went F s a w0 w1 → w1.cell? ⟨m, 0, none⟩ = some (.pointer (some ⟨s, 0, none⟩))) := hid fun a w1 h1 => (h1.cell hm hF).trans ((h.cell hm hF).symm.trans c0)
  clear h
  have hz : 0 ≤ IntKind.u8.wrap (u : Int) ∧ IntKind.u8.wrap (u : Int) ≤ 18446744073709551615 := by simp [IntKind.wrap, IntKind.bits, IntKind.signed]; omega
  obtain ⟨hz1, hz2⟩ := hz
  generalize hZ : IntKind.u8.wrap (u : Int) = z at hz1 hz2 ⊢
  have HZ := hid hZ
  clear hZ
  go_enter Tryz.func82, Tryz.ntmps82
  go_wp2_with (first
    | (go_at_call 45; refine (peekByte_w (b := 204) HW.out).mono ?_; rintro e w1 ⟨rfl, h1⟩; have k0 := HC.out _ _ h1; have H1 := hid h1; clear h1)
    | (go_at_call 107; refine (isfixint_f 204 (by decide) _ (by decide)).mono ?_; rintro e w' ⟨rfl, rfl⟩)
    | (go_at_call 69; refine (next_w (bs := 204 :: be 1 u) (n := 2) H1.out (by simp [be_length])).mono ?_; rintro e w2 ⟨v, F2, rfl, j0, j1, j2, j3⟩; have J0 := hid j0; have J : Hid (Went F s r w0 w2) := hid ⟨F2, j1, j2, j3⟩; clear j0 j1 j2 j3)
    | (go_at_call 112; refine (getMuint8_be _ F2 v 204 u J0.out).mono ?_; rintro e w3 ⟨rfl, q1⟩; rw [HZ.out]; have H3 := hid (J.out.only q1); clear q1))
  go_ret2
  exact ⟨rfl, H3.out⟩
set_option maxRecDepth 100000 in
set_option maxHeartbeats 2000000 in
theorem readUint_205 (m u : Nat) (F : Nat → Prop) (s : Nat) (r : List UInt8) (w w0 : World) (h : Went F s ((205 :: be 2 u) ++ r) w0 w) (c0 : w.cell? ⟨m, 0, none⟩ = some (.pointer (some ⟨s, 0, none⟩))) (hm : m < w0.heap.size) (hF : ¬ F m) :
    Calls Tryz.prog 82 #[.pointer (some ⟨m, 0, none⟩)] w (GotW F s r (.tuple #[.int .u64 (IntKind.u16.wrap (u : Int)), .nilIface]) w0) := by
  have HW := hid h
  have HC : Hid (∀ a w1, Went F s a w0 w1 → w1.cell? ⟨m, 0, none⟩ = some (.pointer (some ⟨s, 0, none⟩))) := hid fun a w1 h1 => (h1.cell hm hF).trans ((h.cell hm hF).symm.trans c0)
  clear h
  have hz : 0 ≤ IntKind.u16.wrap (u : Int) ∧ IntKind.u16.wrap (u : Int) ≤ 18446744073709551615 := by simp [IntKind.wrap, IntKind.bits, IntKind.signed]; omega
  obtain ⟨hz1, hz2⟩ := hz
  generalize hZ : IntKind.u16.wrap (u : Int) = z at hz1 hz2 ⊢
  have HZ := hid hZ
  clear hZ
  go_enter Tryz.func82, Tryz.ntmps82
  go_wp2_with (first
    | (go_at_call 45; refine (peekByte_w (b := 205) HW.out).mono ?_; rintro e w1 ⟨rfl, h1⟩; have k0 := HC.out _ _ h1; have H1 := hid h1; clear h1)
    | (go_at_call 107; refine (isfixint_f 205 (by decide) _ (by decide)).mono ?_; rintro e w' ⟨rfl, rfl⟩)
    | (go_at_call 69; refine (next_w (bs := 205 :: be 2 u) (n := 3) H1.out (by simp [be_length])).mono ?_; rintro e w2 ⟨v, F2, rfl, j0, j1, j2, j3⟩; have J0 := hid j0; have J : Hid (Went F s r w0 w2) := hid ⟨F2, j1, j2, j3⟩; clear j0 j1 j2 j3)
    | (go_at_call 114; refine (getMuint16_be _ F2 v 205 u J0.out).mono ?_; rintro e w3 ⟨rfl, q1⟩; rw [HZ.out]; have H3 := hid (J.out.only q1); clear q1))
  go_ret2
  exact ⟨rfl, H3.out⟩
set_option maxRecDepth 100000 in
set_option maxHeartbeats 2000000 in
theorem readUint_206 (m u : Nat) (F : Nat → Prop) (s : Nat) (r : List UInt8) (w w0 : World) (h : Went F s ((206 :: be 4 u) ++ r) w0 w) (c0 : w.cell? ⟨m, 0, none⟩ = some (.pointer (some ⟨s, 0, none⟩))) (hm : m < w0.heap.size) (hF : ¬ F m) :
    Calls Tryz.prog 82 #[.pointer (some ⟨m, 0, none⟩)] w (GotW F s r (.tuple #[.int .u64 (IntKind.u32.wrap (u : Int)), .nilIface]) w0) := by
  have HW := hid h
  have HC : Hid (∀ a w1, Went F s a w0 w1 → w1.cell? ⟨m, 0, none⟩ = some (.pointer (some ⟨s, 0, none⟩))) := hid fun a w1 h1 => (h1.cell hm hF).trans ((h.cell hm hF).symm.trans c0)
  clear h
  have hz : 0 ≤ IntKind.u32.wrap (u : Int) ∧ IntKind.u32.wrap (u : Int) ≤ 18446744073709551615 := by simp [IntKind.wrap, IntKind.bits, IntKind.signed]; omega
  obtain ⟨hz1, hz2⟩ := hz
  generalize hZ : IntKind.u32.wrap (u : Int) = z at hz1 hz2 ⊢
  have HZ := hid hZ
  clear hZ
  go_enter Tryz.func82, Tryz.ntmps82
  go_wp2_with (first
    | (go_at_call 45; refine (peekByte_w (b := 206) HW.out).mono ?_; rintro e w1 ⟨rfl, h1⟩; have k0 := HC.out _ _ h1; have H1 := hid h1; clear h1)
    | (go_at_call 107; refine (isfixint_f 206 (by decide) _ (by decide)).mono ?_; rintro e w' ⟨rfl, rfl⟩)
    | (go_at_call 69; refine (next_w (bs := 206 :: be 4 u) (n := 5) H1.out (by simp [be_length])).mono ?_; rintro e w2 ⟨v, F2, rfl, j0, j1, j2, j3⟩; have J0 := hid j0; have J : Hid (Went F s r w0 w2) := hid ⟨F2, j1, j2, j3⟩; clear j0 j1 j2 j3)
    | (go_at_call 116; refine (getMuint32_be _ F2 v 206 u J0.out).mono ?_; rintro e w3 ⟨rfl, q1⟩; rw [HZ.out]; have H3 := hid (J.out.only q1); clear q1))
  go_ret2
  exact ⟨rfl, H3.out⟩
set_option maxRecDepth 100000 in
set_option maxHeartbeats 2000000 in
theorem readUint_207 (m u : Nat) (F : Nat → Prop) (s : Nat) (r : List UInt8) (w w0 : World) (h : Went F s ((207 :: be 8 u) ++ r) w0 w) (c0 : w.cell? ⟨m, 0, none⟩ = some (.pointer (some ⟨s, 0, none⟩))) (hm : m < w0.heap.size) (hF : ¬ F m) :
    Calls Tryz.prog 82 #[.pointer (some ⟨m, 0, none⟩)] w (GotW F s r (.tuple #[.int .u64 (IntKind.u64.wrap (u : Int)), .nilIface]) w0) := by
  have HW := hid h
  have HC : Hid (∀ a w1, Went F s a w0 w1 → w1.cell? ⟨m, 0, none⟩ = some (.pointer (some ⟨s, 0, none⟩))) := hid fun a w1 h1 => (h1.cell hm hF).trans ((h.cell hm hF).symm.trans c0)
  clear h
  have hz : 0 ≤ IntKind.u64.wrap (u : Int) ∧ IntKind.u64.wrap (u : Int) ≤ 18446744073709551615 := by simp [IntKind.wrap, IntKind.bits, IntKind.signed]; omega
  obtain ⟨hz1, hz2⟩ := hz
  generalize hZ : IntKind.u64.wrap (u : Int) = z at hz1 hz2 ⊢
  have HZ := hid hZ
  clear hZ
  go_enter Tryz.func82, Tryz.ntmps82
  go_wp2_with (first
    | (go_at_call 45; refine (peekByte_w (b := 207) HW.out).mono ?_; rintro e w1 ⟨rfl, h1⟩; have k0 := HC.out _ _ h1; have H1 := hid h1; clear h1)
    | (go_at_call 107; refine (isfixint_f 207 (by decide) _ (by decide)).mono ?_; rintro e w' ⟨rfl, rfl⟩)
    | (go_at_call 69; refine (next_w (bs := 207 :: be 8 u) (n := 9) H1.out (by simp [be_length])).mono ?_; rintro e w2 ⟨v, F2, rfl, j0, j1, j2, j3⟩; have J0 := hid j0; have J : Hid (Went F s r w0 w2) := hid ⟨F2, j1, j2, j3⟩; clear j0 j1 j2 j3)
    | (go_at_call 118; refine (getMuint64_be _ F2 v 207 u J0.out).mono ?_; rintro e w3 ⟨rfl, q1⟩; rw [HZ.out]; have H3 := hid (J.out.only q1); clear q1))
  go_ret2
  exact ⟨rfl, H3.out⟩
end Go.Proofs.YtbgckolcimlofaaGreatDoor
namespace Go.Proofs.YtbgckolcimlofaaGreatDoor
open Go.RowKit YtbgckolcimlofaaGreatDoorPj
theorem tryz_u88 : Tryz.prog.underlying 88 = some (.slice 56) := by kernel_rfl
theorem tryz_i56' : (Tryz.prog.info? 56).map (fun i => (i.zero, i.size, i.bytes)) = some (some (.agg #[.int .i64 0, .int .i64 0]), 2, 16) := by kernel_rfl
theorem tryz_i56 : ∃ i, Tryz.prog.info? 56 = some i ∧ i.zero = some (.agg #[.int .i64 0, .int .i64 0]) ∧ i.size = 2 ∧ i.bytes = 16 := by
  have h := tryz_i56'
  cases hi : Tryz.prog.info? 56 with
  | none => rw [hi] at h; cases h
  | some i =>
    rw [hi] at h
    simp at h
    exact ⟨i, rfl, h.1, h.2.1, h.2.2⟩

def fcells (f : Nat × Nat) : List Value := [.int .i64 (f.1 : Nat), .int .i64 (f.2 : Nat)]
/-- Forms behind an address. -/
def FsAt (w : World) (A : Option Addr) (fs : List (Nat × Nat)) : Prop :=
  ∀ j (h : j < fs.length), ∃ b off, A = some ⟨b, off, none⟩ ∧ w.cell? ⟨b, off + j * 2, none⟩ = some (.int .i64 (fs[j].1 : Nat)) ∧ w.cell? ⟨b, off + j * 2 + 1, none⟩ = some (.int .i64 (fs[j].2 : Nat))
/-- A row of forms of one's own. -/
def FRow (w : World) (B : Nat) (v : Value) (fs : List (Nat × Nat)) : Prop := w.ownsRow B 56 2 v fs.length (fs.flatMap fcells)
theorem FRow.nil (w : World) (B : Nat) : FRow w B (.slice none 0 0) [] := World.ownsRow_nil _ _ _ _
theorem fcells_len (fs : List (Nat × Nat)) : (fs.flatMap fcells).length = fs.length * 2 := by
  induction fs with
  | nil => rfl
  | cons f r ih => simp [fcells, ih]; omega
theorem fcells_at (fs : List (Nat × Nat)) (j i : Nat) (hj : j < fs.length) (hi : i < 2) : (fs.flatMap fcells)[j * 2 + i]? = (fcells fs[j])[i]? := by
  induction fs generalizing j with
  | nil => simp at hj
  | cons f r ih =>
    rw [List.flatMap_cons]
    cases j with
    | zero => rw [List.getElem?_append_left (by simp [fcells]; omega)]; simp
    | succ j =>
      rw [List.getElem?_append_right (by simp [fcells]; omega)]
      have : (j + 1) * 2 + i - (fcells f).length = j * 2 + i := by simp [fcells]; omega
      rw [this, ih j (by simpa using hj)]
      rfl
theorem FRow.at {w : World} {B : Nat} {v : Value} {fs : List (Nat × Nat)} (h : FRow w B v fs) : ∃ A cap, v = .slice A fs.length cap ∧ FsAt w A fs := by
  rcases h.2 with ⟨h1, h2⟩ | ⟨g, cap, cur, rfl, hb, hg, hn, hm, hs, ht⟩
  · exact ⟨none, 0, by rw [h1, h2], fun j hj => by omega⟩
  · refine ⟨_, cap, rfl, fun j hj => ⟨g, 0, rfl, ?_, ?_⟩⟩
    · have := World.ownsRow.cells h (g := g) rfl (j * 2 + 0) _ (by rw [fcells_at fs j 0 hj (by omega)]; rfl)
      rwa [Addr.add_lit] at this
    · have := World.ownsRow.cells h (g := g) rfl (j * 2 + 1) _ (by rw [fcells_at fs j 1 hj (by omega)]; rfl)
      rwa [Addr.add_lit, ← Nat.add_assoc] at this
theorem FRow.block {w : World} {B : Nat} {v : Value} {fs : List (Nat × Nat)} (h : FRow w B v fs) {k : Nat} (hk : v.ownBlock = some k) : B ≤ k ∧ k < w.heap.size := by
  rcases h.2 with ⟨rfl, h2⟩ | ⟨g, cap, cur, rfl, hb, hg, hn, hm, hs, ht⟩
  · exact nomatch hk
  · have := own1 hk
    subst this
    exact ⟨hb, (Array.getElem?_eq_some_iff.1 hg).1⟩
theorem FRow.only {w w' : World} {B : Nat} {v : Value} {fs : List (Nat × Nat)} {S : Nat → Prop} (h : FRow w B v fs) (ho : Only S w w') (hS : ∀ k, v.ownBlock = some k → ¬ S k) : FRow w' B v fs := by
  refine ⟨h.1, ?_⟩
  rcases h.2 with ⟨h1, h2⟩ | ⟨g, cap, cur, rfl, hb, hg, hn, hm, hs, ht⟩
  · exact Or.inl ⟨h1, h2⟩
  · exact Or.inr ⟨g, cap, cur, rfl, hb, (ho.block g (Array.getElem?_eq_some_iff.1 hg).1 (hS g rfl)).trans hg, hn, hm, hs, ht⟩
section
variable {w : World} {ops : Array Oper} {rest : List Oper} {o : Oper} {a : Act} {Q : Exit → Act → World → Prop}
theorem frow_push (hgd : o.guard = none) (s x : Operand) (ho : o.op = .call { callee := .builtin .append, args := #[s, x], argTypes := #[88, 88] }) {w0 : World} {B : Nat}
    (v : Value) (fs : List (Nat × Nat)) (hs : a.eval s = v) (hown : FRow w0 B v fs) (f : Nat × Nat) {gz : Nat} (hx : a.eval x = .slice (some ⟨gz, 0, none⟩) 1 1) (hgz : w0.heap.size = gz) (hw : w = w0.alloc (.cells #[.int .i64 (f.1 : Nat), .int .i64 (f.2 : Nat)] 56))
    (hbase : B ≤ w0.heap.size) (hbig : fs.length + 1 ≤ 1000000)
    (h : ∀ v' w', FRow w' B v' (fs ++ [f]) → w0.grownBy w' v.ownBlock → wpList Tryz.prog ops Q rest (a.put o.dst v') w') :
    wpList Tryz.prog ops Q (o :: rest) a w := by
  subst hw hgz
  obtain ⟨i, hi, hz, hz1, hz2⟩ := tryz_i56
  have h0 : Only (fun _ => False) w0 (w0.alloc (.cells #[.int .i64 (f.1 : Nat), .int .i64 (f.2 : Nat)] 56)) := by simp
  refine wpList_append_own_at _ hgd s x 88 ho B 56 i _ 2 16 tryz_u88 hi hz hz1 hz2 rfl (by decide) v fs.length _ hs (hown.alloc _) ⟨w0.heap.size, 0, none⟩ 1 1 (fcells f) hx rfl ?_ ?_ (by unfold maxLen; omega) (by omega) (by simp; omega) ?_
  · intro j u hu
    rw [Addr.add_lit, Nat.zero_add, World.cell?_alloc_mark]
    simpa [fcells] using hu
  · intro u hu
    simp [fcells] at hu
    rcases hu with rfl | rfl <;> rfl
  · intro v' w' h1 h2 _ h4
    refine h v' w' ?_ ⟨h2.os, h2.tape, h2.output, by have := h2.size; simp at this; omega, fun k hk hne => by
      rw [h2.block k (by simp; omega) hne]
      exact h0.block k hk (fun h => h)⟩
    unfold FRow
    rw [List.length_append, List.flatMap_append]
    simpa using h1
end
/-- A form holds a number. -/
def holds (u : Nat) (f : Nat × Nat) : Bool := decide (8 ≤ f.2) || decide (u >>> (8 * f.2) = 0)

theorem shr_zero (u k : Nat) : ((u : Int) / 2 ^ k == 0) = decide (u >>> k = 0) := by
  rw [Nat.shiftRight_eq_div_pow]
  have e : (u : Int) / 2 ^ k = ((u / 2 ^ k : Nat) : Int) := by simp
  rw [e]
  generalize u / 2 ^ k = q
  by_cases h : q = 0
  · subst h; rfl
  · have : ¬ ((q : Int) = 0) := by omega
    simp [h]
theorem holds_t {u : Nat} (c : Nat) {s : Nat} (h : 8 ≤ (s : Int) ∨ ((u : Int) / 2 ^ (8 * s) == 0) = true) : holds u (c, s) = true := by
  rw [shr_zero] at h
  unfold holds
  rcases h with h | h
  · simp; left; omega
  · simp at h; simp [h]
theorem holds_f {u : Nat} (c : Nat) {s : Nat} (h : (s : Int) < 8 ∧ ((u : Int) / 2 ^ (8 * s) == 0) = false) : holds u (c, s) = false := by
  rw [shr_zero] at h
  unfold holds
  have h2 := h.2
  simp at h2
  simp [h2]
  omega
set_option maxRecDepth 100000 in
set_option maxHeartbeats 1000000 in
theorem sizes (u : Nat) (A : Option Addr) (cap : Nat) (fs : List (Nat × Nat)) (w : World) (hu : u < 18446744073709551616) (hl : fs.length ≤ 10) (hf : FsAt w A fs) (hs : ∀ f ∈ fs, f.2 ≤ 8) :
    Calls Tryz.prog 33 #[.int .u64 (u : Nat), .slice A fs.length cap] w (fun e w' => ∃ v, e = .returned v ∧ FRow w' w.heap.size v (fs.filter (holds u)) ∧ Only (fun _ => False) w w') := by
  have HF := hid hf
  have HS := hid hs
  clear hf hs
  generalize hL : fs.length = L at hl ⊢
  have HL := hid hL
  clear hL
  go_enter Tryz.func33, Tryz.ntmps33
  go_wp2
  go_loopg [5, 10] L (fun m v5 v10 wr => ∃ j : Nat, j + m = L ∧ v10 = .int .i64 (j : Nat) ∧ FRow wr w.heap.size v5 ((fs.take j).filter (holds u)) ∧ Hid (Only (fun _ => False) w wr))
  case atStart => exact ⟨0, by omega, rfl, FRow.nil _ _, hid (by simp)⟩
  case round =>
    obtain ⟨j, hj, rfl, hown, ho⟩ := hrel
    have hbw : w.heap.size ≤ wr.heap.size := ho.out.size
    by_cases hlt : j < L
    · have hlt1 : j < fs.length := by have := HL.out; omega
      obtain ⟨b, off, rfl, hc0, hc1⟩ := HF.out j hlt1
      have hbl := World.block_lt_of_cell? w _ hc0
      have d0 := (ho.out.cell hbl (fun h => h)).trans hc0
      have d1 := (ho.out.cell hbl (fun h => h)).trans hc1
      have h8 : fs[j].2 ≤ 8 := HS.out _ (List.getElem_mem hlt1)
      have HT : Hid (fs.take (j + 1) = fs.take j ++ [fs[j]]) := hid (by rw [List.take_add_one, List.getElem?_eq_getElem hlt1]; rfl)
      have HBig : Hid (((fs.take j).filter (holds u)).length ≤ 10) := hid (by
        have h1 := List.length_filter_le (holds u) (fs.take j)
        have h2 := List.length_take_le' j fs
        have := HL.out
        omega)
      generalize hfj : fs[j] = f at *
      obtain ⟨c, s⟩ := f
      have HFJ := hid hfj
      clear hfj hc0 hc1
      dsimp only at d0 d1 h8
      go_wp2_with (at_builtin; refine frow_push rfl _ _ rfl u5 _ rfl (hown.only (Only.alloc (Only.refl (fun _ => False) _) _) (fun _ _ h => h)) (c, s) rfl (by simp) rfl (by simp; omega) (by have := HBig.out; omega) ?_; intro v' w1 hown1 hgr; have HR := hid hown1; have HG := hid hgr; clear hown1 hgr)
      all_goals
        go_roundg (gk - 1)
        case measure => omega
        case rel =>
          refine ⟨j + 1, by omega, by go_num, ?_, hid ?_⟩
          · rw [HT.out, List.filter_append]
            first
              | (rw [show [(c, s)].filter (holds u) = [(c, s)] from by simp [holds_t c (show 8 ≤ (s : Int) ∨ ((u : Int) / 2 ^ (8 * s) == 0) = true by first | assumption | exact Or.inl (by assumption))]]; exact HR.out)
              | (rw [show [(c, s)].filter (holds u) = [] from by simp [holds_f c (show (s : Int) < 8 ∧ ((u : Int) / 2 ^ (8 * s) == 0) = false by assumption)], List.append_nil]; exact hown.only (Only.alloc (Only.refl (fun _ => False) _) _) (fun _ _ h => h))
          · first
              | exact (ho.out.alloc _).grown HG.out (fun k e hk => by have := (hown.block e).1; omega)
              | exact ho.out.alloc _
    · obtain rfl : j = L := by omega
      go_wp2
      go_ret
      rw [List.take_of_length_le (by have := HL.out; omega)] at hown
      exact ⟨_, rfl, hown, ho.out⟩
end Go.Proofs.YtbgckolcimlofaaGreatDoor
