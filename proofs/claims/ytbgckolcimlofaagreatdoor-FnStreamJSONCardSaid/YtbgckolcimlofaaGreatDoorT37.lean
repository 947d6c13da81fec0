/-
  ReadBytes by its nine forms of header; where the header and the bytes lie ahead.
-/
import Derived.Test.YtbgckolcimlofaaGreatDoorProg
import Derived.Test.YtbgckolcimlofaaGreatDoorT36
set_option linter.unusedVariables false
set_option linter.unusedSimpArgs false
namespace Go.Proofs.YtbgckolcimlofaaGreatDoor
open Go.RowKit YtbgckolcimlofaaGreatDoorPj

theorem InRoom.getL {w : World} {F : Nat → Prop} {v : Value} {bs : List UInt8} (h : InRoom w F v bs) (L : Nat) (hL : bs.length = L) (h0 : 0 < L) : ∃ g o cap, v = .slice (some ⟨g, o, none⟩) L cap ∧ F g ∧ L ≤ cap ∧ cap ≤ 4398046511104 ∧ ∀ j (h : j < bs.length), w.cell? ⟨g, o + j, none⟩ = some (.int .u8 ((bs[j].toNat : Nat) : Int)) := by
  subst hL
  exact h.get h0
set_option maxRecDepth 100000 in
set_option maxHeartbeats 2000000 in
theorem readBytes_196_new (content r : List UInt8) (n : Nat) (hn : content.length = n) (hn8 : n < 256) (hn9 : n ≤ 131072) (F : Nat → Prop) (m s : Nat) (w : World) (h : Went F s ((196 :: be 1 n) ++ (content ++ r)) w w) (c0 : w.cell? ⟨m, 0, none⟩ = some (.pointer (some ⟨s, 0, none⟩))) (c4 : w.cell? ⟨m, 4, none⟩ = some (.int .u32 1048576)) (hm : m < w.heap.size) (hF : ¬ F m) (A : Option Addr) (cap : Nat) (hcn : cap < n) :
    Calls Tryz.prog 75 #[.pointer (some ⟨m, 0, none⟩), .slice A 0 cap] w (fun e w' => ∃ v, e = .returned (.tuple #[v, .nilIface]) ∧ BytesPost F s A cap content r w v w') := by
  have HW := hid h
  have HC : Hid (∀ a w1, Went F s a w w1 → w1.cell? ⟨m, 0, none⟩ = some (.pointer (some ⟨s, 0, none⟩)) ∧ w1.cell? ⟨m, 4, none⟩ = some (.int .u32 1048576) ∧ m < w1.heap.size) := hid fun a w1 h1 => ⟨(h1.cell hm hF).trans c0, (h1.cell hm hF).trans c4, Nat.lt_of_lt_of_le hm h1.size⟩
  have HN := hid hn
  have HFULL : Hid (∀ w1, Went F s (content ++ r) w w1 → Calls Tryz.prog 100 #[.pointer (some ⟨s, 0, none⟩), .slice (some ⟨w1.heap.size, 0, none⟩) n n] (w1.alloc (.cells (madeCells #[.int .u8 0] n) 5)) (fun e w' => e = .returned (.tuple #[.int .i64 (n : Nat), .nilIface]) ∧ BytesPost F s A cap content r w (.slice (some ⟨w1.heap.size, 0, none⟩) n n) w')) := hid fun w1 h1 => full_new h1 hn hn9
  have hcl : (cap : Int) < (n : Int) := by omega
  have hcd : decide ((cap : Int) < (n : Int)) = true := by simp; omega
  have hnm : (n : Int) ≤ 1048576 := by omega
  clear h hn
  have hb2 : (UInt8.ofNat n).toNat = n := u8n (by omega)
  have HB2 := hid hb2
  clear hb2
  go_enter Tryz.func75, Tryz.ntmps75
  go_wp2_with (first
    | (go_at_call 96; go_must (refine (peek_w (bs := 196 :: be 1 n) (r := content ++ r) (n := 2) HW.out (by simp [be_length])).mono ?_); rintro e w1 ⟨v, F1, rfl, j0, j1, j2, j3⟩; obtain ⟨g1, o1, cap1, rfl, q0, q1, q2, q3⟩ := j0.getL 2 (by simp [be_length]) (by omega); have q4 : w1.cell? ⟨g1, o1, none⟩ = some (.int .u8 196) := (q3 0 (by simp [be_length])); have q5 : w1.cell? ⟨g1, o1 + 1, none⟩ = some (.int .u8 (n : Nat)) := (by have := q3 1 (by simp [be_length]); rw [show (196 :: be 1 n)[1]'(by simp [be_length]) = UInt8.ofNat n from rfl, HB2.out] at this; exact this); have J1 : Hid (Went F s ((196 :: be 1 n) ++ (content ++ r)) w w1) := hid ⟨F1, j1, j2, j3⟩; have k0 := (HC.out _ _ J1.out).1; clear j0 j1 j2 j3 q3)
    | (go_at_call 68; go_must (refine (skip_w (n := 2) J1.out (by simp [be_length])).mono ?_); rintro e w2 ⟨rfl, h2⟩; obtain ⟨k10, k14, kml⟩ := HC.out _ _ h2; have kne : ¬ w2.heap.size = m := (by omega); have kne2 : ¬ m = w2.heap.size := (by omega); have J2 : Hid (Went F s (content ++ r) w w2) := hid h2; clear h2)
    | (refine make_bytes rfl _ _ rfl n n rfl rfl (Nat.le_refl _) (by omega) ?_)
    | (go_at_call 99; refine (maxElems m _ k14).mono ?_; rintro e w' ⟨rfl, rfl⟩)
    | (go_at_call 100; go_must (refine (HFULL.out _ J2.out).mono ?_); rintro e w4 ⟨rfl, h4⟩; have J4 := hid h4; clear h4))
  go_ret2
  exact ⟨_, rfl, J4.out⟩
set_option maxRecDepth 100000 in
set_option maxHeartbeats 2000000 in
theorem readBytes_196_old (content r : List UInt8) (n : Nat) (hn : content.length = n) (hn8 : n < 256) (hn9 : n ≤ 131072) (F : Nat → Prop) (m s : Nat) (w : World) (h : Went F s ((196 :: be 1 n) ++ (content ++ r)) w w) (c0 : w.cell? ⟨m, 0, none⟩ = some (.pointer (some ⟨s, 0, none⟩))) (c4 : w.cell? ⟨m, 4, none⟩ = some (.int .u32 1048576)) (hm : m < w.heap.size) (hF : ¬ F m) (g cap : Nat) (hcn : n ≤ cap) (hcm : cap ≤ maxLen) (hrow : Row w 0 (.slice (some ⟨g, 0, none⟩) 0 cap) []) (hgF : ¬ F g) :
    Calls Tryz.prog 75 #[.pointer (some ⟨m, 0, none⟩), .slice (some ⟨g, 0, none⟩) 0 cap] w (fun e w' => ∃ v, e = .returned (.tuple #[v, .nilIface]) ∧ BytesPost F s (some ⟨g, 0, none⟩) cap content r w v w') := by
  have HW := hid h
  have HC : Hid (∀ a w1, Went F s a w w1 → w1.cell? ⟨m, 0, none⟩ = some (.pointer (some ⟨s, 0, none⟩)) ∧ w1.cell? ⟨m, 4, none⟩ = some (.int .u32 1048576) ∧ m < w1.heap.size) := hid fun a w1 h1 => ⟨(h1.cell hm hF).trans c0, (h1.cell hm hF).trans c4, Nat.lt_of_lt_of_le hm h1.size⟩
  have HN := hid hn
  have HFULL : Hid (∀ w1, Went F s (content ++ r) w w1 → Calls Tryz.prog 100 #[.pointer (some ⟨s, 0, none⟩), .slice (some ⟨g, 0, none⟩) n cap] w1 (fun e w' => e = .returned (.tuple #[.int .i64 (n : Nat), .nilIface]) ∧ BytesPost F s (some ⟨g, 0, none⟩) cap content r w (.slice (some ⟨g, 0, none⟩) n cap) w')) := hid fun w1 h1 => full_old h1 hn hn9 hrow hgF hcn
  have hcd : decide ((cap : Int) < (n : Int)) = false := by simp; omega
  have hcx : (n : Int) ≤ (cap : Int) := by omega
  have hcm' : cap ≤ 9223372036854775807 := by unfold maxLen at hcm; omega
  clear hrow hgF hcm
  clear h hn
  have hb2 : (UInt8.ofNat n).toNat = n := u8n (by omega)
  have HB2 := hid hb2
  clear hb2
  go_enter Tryz.func75, Tryz.ntmps75
  go_wp2_with (first
    | (go_at_call 96; go_must (refine (peek_w (bs := 196 :: be 1 n) (r := content ++ r) (n := 2) HW.out (by simp [be_length])).mono ?_); rintro e w1 ⟨v, F1, rfl, j0, j1, j2, j3⟩; obtain ⟨g1, o1, cap1, rfl, q0, q1, q2, q3⟩ := j0.getL 2 (by simp [be_length]) (by omega); have q4 : w1.cell? ⟨g1, o1, none⟩ = some (.int .u8 196) := (q3 0 (by simp [be_length])); have q5 : w1.cell? ⟨g1, o1 + 1, none⟩ = some (.int .u8 (n : Nat)) := (by have := q3 1 (by simp [be_length]); rw [show (196 :: be 1 n)[1]'(by simp [be_length]) = UInt8.ofNat n from rfl, HB2.out] at this; exact this); have J1 : Hid (Went F s ((196 :: be 1 n) ++ (content ++ r)) w w1) := hid ⟨F1, j1, j2, j3⟩; have k0 := (HC.out _ _ J1.out).1; clear j0 j1 j2 j3 q3)
    | (go_at_call 68; go_must (refine (skip_w (n := 2) J1.out (by simp [be_length])).mono ?_); rintro e w2 ⟨rfl, h2⟩; obtain ⟨k10, k14, kml⟩ := HC.out _ _ h2; have kne : ¬ w2.heap.size = m := (by omega); have kne2 : ¬ m = w2.heap.size := (by omega); have J2 : Hid (Went F s (content ++ r) w w2) := hid h2; clear h2)
    | (go_at_call 100; go_must (refine (HFULL.out _ J2.out).mono ?_); rintro e w4 ⟨rfl, h4⟩; have J4 := hid h4; clear h4))
  go_ret2
  exact ⟨_, rfl, J4.out⟩
set_option maxRecDepth 100000 in
set_option maxHeartbeats 2000000 in
theorem readBytes_196_nil (content r : List UInt8) (n : Nat) (hn : content.length = n) (hn8 : n < 256) (hn9 : n ≤ 131072) (F : Nat → Prop) (m s : Nat) (w : World) (h : Went F s ((196 :: be 1 n) ++ (content ++ r)) w w) (c0 : w.cell? ⟨m, 0, none⟩ = some (.pointer (some ⟨s, 0, none⟩))) (c4 : w.cell? ⟨m, 4, none⟩ = some (.int .u32 1048576)) (hm : m < w.heap.size) (hF : ¬ F m) (hn0 : n = 0) :
    Calls Tryz.prog 75 #[.pointer (some ⟨m, 0, none⟩), .slice none 0 0] w (fun e w' => ∃ v, e = .returned (.tuple #[v, .nilIface]) ∧ BytesPost F s none 0 content r w v w') := by
  have HW := hid h
  have HC : Hid (∀ a w1, Went F s a w w1 → w1.cell? ⟨m, 0, none⟩ = some (.pointer (some ⟨s, 0, none⟩)) ∧ w1.cell? ⟨m, 4, none⟩ = some (.int .u32 1048576) ∧ m < w1.heap.size) := hid fun a w1 h1 => ⟨(h1.cell hm hF).trans c0, (h1.cell hm hF).trans c4, Nat.lt_of_lt_of_le hm h1.size⟩
  have HN := hid hn
  have HFULL : Hid (∀ w1, Went F s (content ++ r) w w1 → Calls Tryz.prog 100 #[.pointer (some ⟨s, 0, none⟩), .slice none 0 0] w1 (fun e w' => e = .returned (.tuple #[.int .i64 ((0 : Nat) : Int), .nilIface]) ∧ BytesPost F s none 0 content r w (.slice none 0 0) w')) := hid fun w1 h1 => full_nil h1 (by omega)
  subst hn0
  clear h hn
  have hb2 : (UInt8.ofNat 0).toNat = 0 := u8n (by omega)
  have HB2 := hid hb2
  clear hb2
  go_enter Tryz.func75, Tryz.ntmps75
  go_wp2_with (first
    | (go_at_call 96; go_must (refine (peek_w (bs := 196 :: be 1 0) (r := content ++ r) (n := 2) HW.out (by simp [be_length])).mono ?_); rintro e w1 ⟨v, F1, rfl, j0, j1, j2, j3⟩; obtain ⟨g1, o1, cap1, rfl, q0, q1, q2, q3⟩ := j0.getL 2 (by simp [be_length]) (by omega); have q4 : w1.cell? ⟨g1, o1, none⟩ = some (.int .u8 196) := (q3 0 (by simp [be_length])); have q5 : w1.cell? ⟨g1, o1 + 1, none⟩ = some (.int .u8 (0 : Nat)) := (by have := q3 1 (by simp [be_length]); rw [show (196 :: be 1 0)[1]'(by simp [be_length]) = UInt8.ofNat 0 from rfl, HB2.out] at this; exact this); have J1 : Hid (Went F s ((196 :: be 1 0) ++ (content ++ r)) w w1) := hid ⟨F1, j1, j2, j3⟩; have k0 := (HC.out _ _ J1.out).1; clear j0 j1 j2 j3 q3)
    | (go_at_call 68; go_must (refine (skip_w (n := 2) J1.out (by simp [be_length])).mono ?_); rintro e w2 ⟨rfl, h2⟩; obtain ⟨k10, k14, kml⟩ := HC.out _ _ h2; have kne : ¬ w2.heap.size = m := (by omega); have kne2 : ¬ m = w2.heap.size := (by omega); have J2 : Hid (Went F s (content ++ r) w w2) := hid h2; clear h2)
    | (go_at_call 100; go_must (refine (HFULL.out _ J2.out).mono ?_); rintro e w4 ⟨rfl, h4⟩; have J4 := hid h4; clear h4))
  go_ret2
  exact ⟨_, rfl, J4.out⟩
set_option maxRecDepth 100000 in
set_option maxHeartbeats 2000000 in
theorem readBytes_197_new (content r : List UInt8) (n : Nat) (hn : content.length = n) (hn8 : n < 65536) (hn9 : n ≤ 131072) (F : Nat → Prop) (m s : Nat) (w : World) (h : Went F s ((197 :: be 2 n) ++ (content ++ r)) w w) (c0 : w.cell? ⟨m, 0, none⟩ = some (.pointer (some ⟨s, 0, none⟩))) (c4 : w.cell? ⟨m, 4, none⟩ = some (.int .u32 1048576)) (hm : m < w.heap.size) (hF : ¬ F m) (A : Option Addr) (cap : Nat) (hcn : cap < n) :
    Calls Tryz.prog 75 #[.pointer (some ⟨m, 0, none⟩), .slice A 0 cap] w (fun e w' => ∃ v, e = .returned (.tuple #[v, .nilIface]) ∧ BytesPost F s A cap content r w v w') := by
  have HW := hid h
  have HC : Hid (∀ a w1, Went F s a w w1 → w1.cell? ⟨m, 0, none⟩ = some (.pointer (some ⟨s, 0, none⟩)) ∧ w1.cell? ⟨m, 4, none⟩ = some (.int .u32 1048576) ∧ m < w1.heap.size) := hid fun a w1 h1 => ⟨(h1.cell hm hF).trans c0, (h1.cell hm hF).trans c4, Nat.lt_of_lt_of_le hm h1.size⟩
  have HN := hid hn
  have HFULL : Hid (∀ w1, Went F s (content ++ r) w w1 → Calls Tryz.prog 100 #[.pointer (some ⟨s, 0, none⟩), .slice (some ⟨w1.heap.size, 0, none⟩) n n] (w1.alloc (.cells (madeCells #[.int .u8 0] n) 5)) (fun e w' => e = .returned (.tuple #[.int .i64 (n : Nat), .nilIface]) ∧ BytesPost F s A cap content r w (.slice (some ⟨w1.heap.size, 0, none⟩) n n) w')) := hid fun w1 h1 => full_new h1 hn hn9
  have hcl : (cap : Int) < (n : Int) := by omega
  have hcd : decide ((cap : Int) < (n : Int)) = true := by simp; omega
  have hnm : (n : Int) ≤ 1048576 := by omega
  clear h hn
  have hz : IntKind.u16.wrap (n : Int) = (n : Int) := by simp [IntKind.wrap, IntKind.bits, IntKind.signed]; omega
  have HZ := hid hz
  clear hz
  have hw64 : IntKind.i64.wrap (n : Int) = (n : Int) := IntWalk.i64_in _ (by omega)
  go_enter Tryz.func75, Tryz.ntmps75
  go_wp2_with (first
    | (go_at_call 96; go_must (refine (peek_w (bs := [197, UInt8.ofNat (n >>> 8)]) (r := UInt8.ofNat n :: (content ++ r)) (n := 2) HW.out (by simp [be_length])).mono ?_); rintro e w1 ⟨v, F1, rfl, j0, j1, j2, j3⟩; obtain ⟨g1, o1, cap1, rfl, q0, q1, q2, q3⟩ := j0.getL 2 (by simp [be_length]) (by omega); have q4 : w1.cell? ⟨g1, o1, none⟩ = some (.int .u8 197) := (q3 0 (by simp [be_length])); have J1 : Hid (Went F s ((197 :: be 2 n) ++ (content ++ r)) w w1) := hid ⟨F1, j1, j2, j3⟩; have k0 := (HC.out _ _ J1.out).1; clear j0 j1 j2 j3 q3)
    | (go_at_call 69; go_must (refine (next_w (bs := 197 :: be 2 n) (r := content ++ r) (n := 3) J1.out (by simp [be_length])).mono ?_); rintro e w2 ⟨v, F2, rfl, j0, j1, j2, j3⟩; obtain ⟨g2, o2, cap2, rfl, q5, q6, q7, -⟩ := j0.getL 3 (by simp [be_length]) (by omega); have JT := hid j0.tail; have J : Hid (Went F s (content ++ r) w w2) := hid ⟨F2, j1, j2, j3⟩; have q9 : ¬ cap2 = 1 := (by omega); clear j0 j1 j2 j3))
  go_region_held3 (fun _ => True) (trivial)
    (first
      | (go_at_call 70; go_must (refine (beU16_be _ F2 _ n (JT.out.only (Only.drew (Only.refl (fun _ => False) _)) (fun _ _ h => h))).mono ?_); rintro e w3 ⟨rfl, q1⟩; rw [HZ.out]; have J2 : Hid (Went F s (content ++ r) w w3) := hid ((J.out.only (by simp)).only q1); obtain ⟨k10, k14, kml⟩ := HC.out _ _ J2.out; have kne : ¬ w3.heap.size = m := (by omega); have kne2 : ¬ m = w3.heap.size := (by omega); clear q1))
  go_wp2_with (first
    | (refine make_bytes rfl _ _ rfl n n rfl rfl (Nat.le_refl _) (by omega) ?_)
    | (go_at_call 99; refine (maxElems m _ k14).mono ?_; rintro e w' ⟨rfl, rfl⟩)
    | (go_at_call 100; go_must (refine (HFULL.out _ J2.out).mono ?_); rintro e w4 ⟨rfl, h4⟩; have J4 := hid h4; clear h4))
  go_ret2
  exact ⟨_, rfl, J4.out⟩
set_option maxRecDepth 100000 in
set_option maxHeartbeats 2000000 in
theorem readBytes_197_old (content r : List UInt8) (n : Nat) (hn : content.length = n) (hn8 : n < 65536) (hn9 : n ≤ 131072) (F : Nat → Prop) (m s : Nat) (w : World) (h : Went F s ((197 :: be 2 n) ++ (content ++ r)) w w) (c0 : w.cell? ⟨m, 0, none⟩ = some (.pointer (some ⟨s, 0, none⟩))) (c4 : w.cell? ⟨m, 4, none⟩ = some (.int .u32 1048576)) (hm : m < w.heap.size) (hF : ¬ F m) (g cap : Nat) (hcn : n ≤ cap) (hcm : cap ≤ maxLen) (hrow : Row w 0 (.slice (some ⟨g, 0, none⟩) 0 cap) []) (hgF : ¬ F g) :
    Calls Tryz.prog 75 #[.pointer (some ⟨m, 0, none⟩), .slice (some ⟨g, 0, none⟩) 0 cap] w (fun e w' => ∃ v, e = .returned (.tuple #[v, .nilIface]) ∧ BytesPost F s (some ⟨g, 0, none⟩) cap content r w v w') := by
  have HW := hid h
  have HC : Hid (∀ a w1, Went F s a w w1 → w1.cell? ⟨m, 0, none⟩ = some (.pointer (some ⟨s, 0, none⟩)) ∧ w1.cell? ⟨m, 4, none⟩ = some (.int .u32 1048576) ∧ m < w1.heap.size) := hid fun a w1 h1 => ⟨(h1.cell hm hF).trans c0, (h1.cell hm hF).trans c4, Nat.lt_of_lt_of_le hm h1.size⟩
  have HN := hid hn
  have HFULL : Hid (∀ w1, Went F s (content ++ r) w w1 → Calls Tryz.prog 100 #[.pointer (some ⟨s, 0, none⟩), .slice (some ⟨g, 0, none⟩) n cap] w1 (fun e w' => e = .returned (.tuple #[.int .i64 (n : Nat), .nilIface]) ∧ BytesPost F s (some ⟨g, 0, none⟩) cap content r w (.slice (some ⟨g, 0, none⟩) n cap) w')) := hid fun w1 h1 => full_old h1 hn hn9 hrow hgF hcn
  have hcd : decide ((cap : Int) < (n : Int)) = false := by simp; omega
  have hcx : (n : Int) ≤ (cap : Int) := by omega
  have hcm' : cap ≤ 9223372036854775807 := by unfold maxLen at hcm; omega
  clear hrow hgF hcm
  clear h hn
  have hz : IntKind.u16.wrap (n : Int) = (n : Int) := by simp [IntKind.wrap, IntKind.bits, IntKind.signed]; omega
  have HZ := hid hz
  clear hz
  have hw64 : IntKind.i64.wrap (n : Int) = (n : Int) := IntWalk.i64_in _ (by omega)
  go_enter Tryz.func75, Tryz.ntmps75
  go_wp2_with (first
    | (go_at_call 96; go_must (refine (peek_w (bs := [197, UInt8.ofNat (n >>> 8)]) (r := UInt8.ofNat n :: (content ++ r)) (n := 2) HW.out (by simp [be_length])).mono ?_); rintro e w1 ⟨v, F1, rfl, j0, j1, j2, j3⟩; obtain ⟨g1, o1, cap1, rfl, q0, q1, q2, q3⟩ := j0.getL 2 (by simp [be_length]) (by omega); have q4 : w1.cell? ⟨g1, o1, none⟩ = some (.int .u8 197) := (q3 0 (by simp [be_length])); have J1 : Hid (Went F s ((197 :: be 2 n) ++ (content ++ r)) w w1) := hid ⟨F1, j1, j2, j3⟩; have k0 := (HC.out _ _ J1.out).1; clear j0 j1 j2 j3 q3)
    | (go_at_call 69; go_must (refine (next_w (bs := 197 :: be 2 n) (r := content ++ r) (n := 3) J1.out (by simp [be_length])).mono ?_); rintro e w2 ⟨v, F2, rfl, j0, j1, j2, j3⟩; obtain ⟨g2, o2, cap2, rfl, q5, q6, q7, -⟩ := j0.getL 3 (by simp [be_length]) (by omega); have JT := hid j0.tail; have J : Hid (Went F s (content ++ r) w w2) := hid ⟨F2, j1, j2, j3⟩; have q9 : ¬ cap2 = 1 := (by omega); clear j0 j1 j2 j3))
  go_region_held3 (fun _ => True) (trivial)
    (first
      | (go_at_call 70; go_must (refine (beU16_be _ F2 _ n (JT.out.only (Only.drew (Only.refl (fun _ => False) _)) (fun _ _ h => h))).mono ?_); rintro e w3 ⟨rfl, q1⟩; rw [HZ.out]; have J2 : Hid (Went F s (content ++ r) w w3) := hid ((J.out.only (by simp)).only q1); obtain ⟨k10, k14, kml⟩ := HC.out _ _ J2.out; have kne : ¬ w3.heap.size = m := (by omega); have kne2 : ¬ m = w3.heap.size := (by omega); clear q1))
  go_wp2_with (first
    | (go_at_call 100; go_must (refine (HFULL.out _ J2.out).mono ?_); rintro e w4 ⟨rfl, h4⟩; have J4 := hid h4; clear h4))
  go_ret2
  exact ⟨_, rfl, J4.out⟩
set_option maxRecDepth 100000 in
set_option maxHeartbeats 2000000 in
theorem readBytes_197_nil (content r : List UInt8) (n : Nat) (hn : content.length = n) (hn8 : n < 65536) (hn9 : n ≤ 131072) (F : Nat → Prop) (m s : Nat) (w : World) (h : Went F s ((197 :: be 2 n) ++ (content ++ r)) w w) (c0 : w.cell? ⟨m, 0, none⟩ = some (.pointer (some ⟨s, 0, none⟩))) (c4 : w.cell? ⟨m, 4, none⟩ = some (.int .u32 1048576)) (hm : m < w.heap.size) (hF : ¬ F m) (hn0 : n = 0) :
    Calls Tryz.prog 75 #[.pointer (some ⟨m, 0, none⟩), .slice none 0 0] w (fun e w' => ∃ v, e = .returned (.tuple #[v, .nilIface]) ∧ BytesPost F s none 0 content r w v w') := by
  have HW := hid h
  have HC : Hid (∀ a w1, Went F s a w w1 → w1.cell? ⟨m, 0, none⟩ = some (.pointer (some ⟨s, 0, none⟩)) ∧ w1.cell? ⟨m, 4, none⟩ = some (.int .u32 1048576) ∧ m < w1.heap.size) := hid fun a w1 h1 => ⟨(h1.cell hm hF).trans c0, (h1.cell hm hF).trans c4, Nat.lt_of_lt_of_le hm h1.size⟩
  have HN := hid hn
  have HFULL : Hid (∀ w1, Went F s (content ++ r) w w1 → Calls Tryz.prog 100 #[.pointer (some ⟨s, 0, none⟩), .slice none 0 0] w1 (fun e w' => e = .returned (.tuple #[.int .i64 ((0 : Nat) : Int), .nilIface]) ∧ BytesPost F s none 0 content r w (.slice none 0 0) w')) := hid fun w1 h1 => full_nil h1 (by omega)
  subst hn0
  clear h hn
  have HZ : Hid (IntKind.u16.wrap ((0 : Nat) : Int) = ((0 : Nat) : Int)) := hid (by decide)
  go_enter Tryz.func75, Tryz.ntmps75
  go_wp2_with (first
    | (go_at_call 96; go_must (refine (peek_w (bs := [197, UInt8.ofNat (0 >>> 8)]) (r := UInt8.ofNat 0 :: (content ++ r)) (n := 2) HW.out (by simp [be_length])).mono ?_); rintro e w1 ⟨v, F1, rfl, j0, j1, j2, j3⟩; obtain ⟨g1, o1, cap1, rfl, q0, q1, q2, q3⟩ := j0.getL 2 (by simp [be_length]) (by omega); have q4 : w1.cell? ⟨g1, o1, none⟩ = some (.int .u8 197) := (q3 0 (by simp [be_length])); have J1 : Hid (Went F s ((197 :: be 2 0) ++ (content ++ r)) w w1) := hid ⟨F1, j1, j2, j3⟩; have k0 := (HC.out _ _ J1.out).1; clear j0 j1 j2 j3 q3)
    | (go_at_call 69; go_must (refine (next_w (bs := 197 :: be 2 0) (r := content ++ r) (n := 3) J1.out (by simp [be_length])).mono ?_); rintro e w2 ⟨v, F2, rfl, j0, j1, j2, j3⟩; obtain ⟨g2, o2, cap2, rfl, q5, q6, q7, -⟩ := j0.getL 3 (by simp [be_length]) (by omega); have JT := hid j0.tail; have J : Hid (Went F s (content ++ r) w w2) := hid ⟨F2, j1, j2, j3⟩; have q9 : ¬ cap2 = 1 := (by omega); clear j0 j1 j2 j3))
  go_region_held3 (fun _ => True) (trivial)
    (first
      | (go_at_call 70; go_must (refine (beU16_be _ F2 _ 0 (JT.out.only (Only.drew (Only.refl (fun _ => False) _)) (fun _ _ h => h))).mono ?_); rintro e w3 ⟨rfl, q1⟩; rw [HZ.out]; have J2 : Hid (Went F s (content ++ r) w w3) := hid ((J.out.only (by simp)).only q1); obtain ⟨k10, k14, kml⟩ := HC.out _ _ J2.out; have kne : ¬ w3.heap.size = m := (by omega); have kne2 : ¬ m = w3.heap.size := (by omega); clear q1))
  go_wp2_with (first
    | (go_at_call 100; go_must (refine (HFULL.out _ J2.out).mono ?_); rintro e w4 ⟨rfl, h4⟩; have J4 := hid h4; clear h4))
  go_ret2
  exact ⟨_, rfl, J4.out⟩
set_option maxRecDepth 100000 in
set_option maxHeartbeats 2000000 in
theorem readBytes_198_new (content r : List UInt8) (n : Nat) (hn : content.length = n) (hn8 : n < 4294967296) (hn9 : n ≤ 131072) (F : Nat → Prop) (m s : Nat) (w : World) (h : Went F s ((198 :: be 4 n) ++ (content ++ r)) w w) (c0 : w.cell? ⟨m, 0, none⟩ = some (.pointer (some ⟨s, 0, none⟩))) (c4 : w.cell? ⟨m, 4, none⟩ = some (.int .u32 1048576)) (hm : m < w.heap.size) (hF : ¬ F m) (A : Option Addr) (cap : Nat) (hcn : cap < n) :
    Calls Tryz.prog 75 #[.pointer (some ⟨m, 0, none⟩), .slice A 0 cap] w (fun e w' => ∃ v, e = .returned (.tuple #[v, .nilIface]) ∧ BytesPost F s A cap content r w v w') := by
  have HW := hid h
  have HC : Hid (∀ a w1, Went F s a w w1 → w1.cell? ⟨m, 0, none⟩ = some (.pointer (some ⟨s, 0, none⟩)) ∧ w1.cell? ⟨m, 4, none⟩ = some (.int .u32 1048576) ∧ m < w1.heap.size) := hid fun a w1 h1 => ⟨(h1.cell hm hF).trans c0, (h1.cell hm hF).trans c4, Nat.lt_of_lt_of_le hm h1.size⟩
  have HN := hid hn
  have HFULL : Hid (∀ w1, Went F s (content ++ r) w w1 → Calls Tryz.prog 100 #[.pointer (some ⟨s, 0, none⟩), .slice (some ⟨w1.heap.size, 0, none⟩) n n] (w1.alloc (.cells (madeCells #[.int .u8 0] n) 5)) (fun e w' => e = .returned (.tuple #[.int .i64 (n : Nat), .nilIface]) ∧ BytesPost F s A cap content r w (.slice (some ⟨w1.heap.size, 0, none⟩) n n) w')) := hid fun w1 h1 => full_new h1 hn hn9
  have hcl : (cap : Int) < (n : Int) := by omega
  have hcd : decide ((cap : Int) < (n : Int)) = true := by simp; omega
  have hnm : (n : Int) ≤ 1048576 := by omega
  clear h hn
  have hz : IntKind.u32.wrap (n : Int) = (n : Int) := by simp [IntKind.wrap, IntKind.bits, IntKind.signed]; omega
  have HZ := hid hz
  clear hz
  have hw64 : IntKind.i64.wrap (n : Int) = (n : Int) := IntWalk.i64_in _ (by omega)
  go_enter Tryz.func75, Tryz.ntmps75
  go_wp2_with (first
    | (go_at_call 96; go_must (refine (peek_w (bs := [198, UInt8.ofNat (n >>> 24)]) (r := UInt8.ofNat (n >>> 16) :: UInt8.ofNat (n >>> 8) :: UInt8.ofNat n :: (content ++ r)) (n := 2) HW.out (by simp [be_length])).mono ?_); rintro e w1 ⟨v, F1, rfl, j0, j1, j2, j3⟩; obtain ⟨g1, o1, cap1, rfl, q0, q1, q2, q3⟩ := j0.getL 2 (by simp [be_length]) (by omega); have q4 : w1.cell? ⟨g1, o1, none⟩ = some (.int .u8 198) := (q3 0 (by simp [be_length])); have J1 : Hid (Went F s ((198 :: be 4 n) ++ (content ++ r)) w w1) := hid ⟨F1, j1, j2, j3⟩; have k0 := (HC.out _ _ J1.out).1; clear j0 j1 j2 j3 q3)
    | (go_at_call 69; go_must (refine (next_w (bs := 198 :: be 4 n) (r := content ++ r) (n := 5) J1.out (by simp [be_length])).mono ?_); rintro e w2 ⟨v, F2, rfl, j0, j1, j2, j3⟩; obtain ⟨g2, o2, cap2, rfl, q5, q6, q7, -⟩ := j0.getL 5 (by simp [be_length]) (by omega); have JT := hid j0.tail; have J : Hid (Went F s (content ++ r) w w2) := hid ⟨F2, j1, j2, j3⟩; have q9 : ¬ cap2 = 1 := (by omega); clear j0 j1 j2 j3))
  go_region_held3 (fun _ => True) (trivial)
    (first
      | (go_at_call 71; go_must (refine (beU32_be _ F2 _ n (JT.out.only (Only.drew (Only.refl (fun _ => False) _)) (fun _ _ h => h))).mono ?_); rintro e w3 ⟨rfl, q1⟩; rw [HZ.out]; have J2 : Hid (Went F s (content ++ r) w w3) := hid ((J.out.only (by simp)).only q1); obtain ⟨k10, k14, kml⟩ := HC.out _ _ J2.out; have kne : ¬ w3.heap.size = m := (by omega); have kne2 : ¬ m = w3.heap.size := (by omega); clear q1))
  go_wp2_with (first
    | (refine make_bytes rfl _ _ rfl n n rfl rfl (Nat.le_refl _) (by omega) ?_)
    | (go_at_call 99; refine (maxElems m _ k14).mono ?_; rintro e w' ⟨rfl, rfl⟩)
    | (go_at_call 100; go_must (refine (HFULL.out _ J2.out).mono ?_); rintro e w4 ⟨rfl, h4⟩; have J4 := hid h4; clear h4))
  go_ret2
  exact ⟨_, rfl, J4.out⟩
set_option maxRecDepth 100000 in
set_option maxHeartbeats 2000000 in
theorem readBytes_198_old (content r : List UInt8) (n : Nat) (hn : content.length = n) (hn8 : n < 4294967296) (hn9 : n ≤ 131072) (F : Nat → Prop) (m s : Nat) (w : World) (h : Went F s ((198 :: be 4 n) ++ (content ++ r)) w w) (c0 : w.cell? ⟨m, 0, none⟩ = some (.pointer (some ⟨s, 0, none⟩))) (c4 : w.cell? ⟨m, 4, none⟩ = some (.int .u32 1048576)) (hm : m < w.heap.size) (hF : ¬ F m) (g cap : Nat) (hcn : n ≤ cap) (hcm : cap ≤ maxLen) (hrow : Row w 0 (.slice (some ⟨g, 0, none⟩) 0 cap) []) (hgF : ¬ F g) :
    Calls Tryz.prog 75 #[.pointer (some ⟨m, 0, none⟩), .slice (some ⟨g, 0, none⟩) 0 cap] w (fun e w' => ∃ v, e = .returned (.tuple #[v, .nilIface]) ∧ BytesPost F s (some ⟨g, 0, none⟩) cap content r w v w') := by
  have HW := hid h
  have HC : Hid (∀ a w1, Went F s a w w1 → w1.cell? ⟨m, 0, none⟩ = some (.pointer (some ⟨s, 0, none⟩)) ∧ w1.cell? ⟨m, 4, none⟩ = some (.int .u32 1048576) ∧ m < w1.heap.size) := hid fun a w1 h1 => ⟨(h1.cell hm hF).trans c0, (h1.cell hm hF).trans c4, Nat.lt_of_lt_of_le hm h1.size⟩
  have HN := hid hn
  have HFULL : Hid (∀ w1, Went F s (content ++ r) w w1 → Calls Tryz.prog 100 #[.pointer (some ⟨s, 0, none⟩), .slice (some ⟨g, 0, none⟩) n cap] w1 (fun e w' => e = .returned (.tuple #[.int .i64 (n : Nat), .nilIface]) ∧ BytesPost F s (some ⟨g, 0, none⟩) cap content r w (.slice (some ⟨g, 0, none⟩) n cap) w')) := hid fun w1 h1 => full_old h1 hn hn9 hrow hgF hcn
  have hcd : decide ((cap : Int) < (n : Int)) = false := by simp; omega
  have hcx : (n : Int) ≤ (cap : Int) := by omega
  have hcm' : cap ≤ 9223372036854775807 := by unfold maxLen at hcm; omega
  clear hrow hgF hcm
  clear h hn
  have hz : IntKind.u32.wrap (n : Int) = (n : Int) := by simp [IntKind.wrap, IntKind.bits, IntKind.signed]; omega
  have HZ := hid hz
  clear hz
  have hw64 : IntKind.i64.wrap (n : Int) = (n : Int) := IntWalk.i64_in _ (by omega)
  go_enter Tryz.func75, Tryz.ntmps75
  go_wp2_with (first
    | (go_at_call 96; go_must (refine (peek_w (bs := [198, UInt8.ofNat (n >>> 24)]) (r := UInt8.ofNat (n >>> 16) :: UInt8.ofNat (n >>> 8) :: UInt8.ofNat n :: (content ++ r)) (n := 2) HW.out (by simp [be_length])).mono ?_); rintro e w1 ⟨v, F1, rfl, j0, j1, j2, j3⟩; obtain ⟨g1, o1, cap1, rfl, q0, q1, q2, q3⟩ := j0.getL 2 (by simp [be_length]) (by omega); have q4 : w1.cell? ⟨g1, o1, none⟩ = some (.int .u8 198) := (q3 0 (by simp [be_length])); have J1 : Hid (Went F s ((198 :: be 4 n) ++ (content ++ r)) w w1) := hid ⟨F1, j1, j2, j3⟩; have k0 := (HC.out _ _ J1.out).1; clear j0 j1 j2 j3 q3)
    | (go_at_call 69; go_must (refine (next_w (bs := 198 :: be 4 n) (r := content ++ r) (n := 5) J1.out (by simp [be_length])).mono ?_); rintro e w2 ⟨v, F2, rfl, j0, j1, j2, j3⟩; obtain ⟨g2, o2, cap2, rfl, q5, q6, q7, -⟩ := j0.getL 5 (by simp [be_length]) (by omega); have JT := hid j0.tail; have J : Hid (Went F s (content ++ r) w w2) := hid ⟨F2, j1, j2, j3⟩; have q9 : ¬ cap2 = 1 := (by omega); clear j0 j1 j2 j3))
  go_region_held3 (fun _ => True) (trivial)
    (first
      | (go_at_call 71; go_must (refine (beU32_be _ F2 _ n (JT.out.only (Only.drew (Only.refl (fun _ => False) _)) (fun _ _ h => h))).mono ?_); rintro e w3 ⟨rfl, q1⟩; rw [HZ.out]; have J2 : Hid (Went F s (content ++ r) w w3) := hid ((J.out.only (by simp)).only q1); obtain ⟨k10, k14, kml⟩ := HC.out _ _ J2.out; have kne : ¬ w3.heap.size = m := (by omega); have kne2 : ¬ m = w3.heap.size := (by omega); clear q1))
  go_wp2_with (first
    | (go_at_call 100; go_must (refine (HFULL.out _ J2.out).mono ?_); rintro e w4 ⟨rfl, h4⟩; have J4 := hid h4; clear h4))
  go_ret2
  exact ⟨_, rfl, J4.out⟩
set_option maxRecDepth 100000 in
set_option maxHeartbeats 2000000 in
theorem readBytes_198_nil (content r : List UInt8) (n : Nat) (hn : content.length = n) (hn8 : n < 4294967296) (hn9 : n ≤ 131072) (F : Nat → Prop) (m s : Nat) (w : World) (h : Went F s ((198 :: be 4 n) ++ (content ++ r)) w w) (c0 : w.cell? ⟨m, 0, none⟩ = some (.pointer (some ⟨s, 0, none⟩))) (c4 : w.cell? ⟨m, 4, none⟩ = some (.int .u32 1048576)) (hm : m < w.heap.size) (hF : ¬ F m) (hn0 : n = 0) :
    Calls Tryz.prog 75 #[.pointer (some ⟨m, 0, none⟩), .slice none 0 0] w (fun e w' => ∃ v, e = .returned (.tuple #[v, .nilIface]) ∧ BytesPost F s none 0 content r w v w') := by
  have HW := hid h
  have HC : Hid (∀ a w1, Went F s a w w1 → w1.cell? ⟨m, 0, none⟩ = some (.pointer (some ⟨s, 0, none⟩)) ∧ w1.cell? ⟨m, 4, none⟩ = some (.int .u32 1048576) ∧ m < w1.heap.size) := hid fun a w1 h1 => ⟨(h1.cell hm hF).trans c0, (h1.cell hm hF).trans c4, Nat.lt_of_lt_of_le hm h1.size⟩
  have HN := hid hn
  have HFULL : Hid (∀ w1, Went F s (content ++ r) w w1 → Calls Tryz.prog 100 #[.pointer (some ⟨s, 0, none⟩), .slice none 0 0] w1 (fun e w' => e = .returned (.tuple #[.int .i64 ((0 : Nat) : Int), .nilIface]) ∧ BytesPost F s none 0 content r w (.slice none 0 0) w')) := hid fun w1 h1 => full_nil h1 (by omega)
  subst hn0
  clear h hn
  have HZ : Hid (IntKind.u32.wrap ((0 : Nat) : Int) = ((0 : Nat) : Int)) := hid (by decide)
  go_enter Tryz.func75, Tryz.ntmps75
  go_wp2_with (first
    | (go_at_call 96; go_must (refine (peek_w (bs := [198, UInt8.ofNat (0 >>> 24)]) (r := UInt8.ofNat (0 >>> 16) :: UInt8.ofNat (0 >>> 8) :: UInt8.ofNat 0 :: (content ++ r)) (n := 2) HW.out (by simp [be_length])).mono ?_); rintro e w1 ⟨v, F1, rfl, j0, j1, j2, j3⟩; obtain ⟨g1, o1, cap1, rfl, q0, q1, q2, q3⟩ := j0.getL 2 (by simp [be_length]) (by omega); have q4 : w1.cell? ⟨g1, o1, none⟩ = some (.int .u8 198) := (q3 0 (by simp [be_length])); have J1 : Hid (Went F s ((198 :: be 4 0) ++ (content ++ r)) w w1) := hid ⟨F1, j1, j2, j3⟩; have k0 := (HC.out _ _ J1.out).1; clear j0 j1 j2 j3 q3)
    | (go_at_call 69; go_must (refine (next_w (bs := 198 :: be 4 0) (r := content ++ r) (n := 5) J1.out (by simp [be_length])).mono ?_); rintro e w2 ⟨v, F2, rfl, j0, j1, j2, j3⟩; obtain ⟨g2, o2, cap2, rfl, q5, q6, q7, -⟩ := j0.getL 5 (by simp [be_length]) (by omega); have JT := hid j0.tail; have J : Hid (Went F s (content ++ r) w w2) := hid ⟨F2, j1, j2, j3⟩; have q9 : ¬ cap2 = 1 := (by omega); clear j0 j1 j2 j3))
  go_region_held3 (fun _ => True) (trivial)
    (first
      | (go_at_call 71; go_must (refine (beU32_be _ F2 _ 0 (JT.out.only (Only.drew (Only.refl (fun _ => False) _)) (fun _ _ h => h))).mono ?_); rintro e w3 ⟨rfl, q1⟩; rw [HZ.out]; have J2 : Hid (Went F s (content ++ r) w w3) := hid ((J.out.only (by simp)).only q1); obtain ⟨k10, k14, kml⟩ := HC.out _ _ J2.out; have kne : ¬ w3.heap.size = m := (by omega); have kne2 : ¬ m = w3.heap.size := (by omega); clear q1))
  go_wp2_with (first
    | (go_at_call 100; go_must (refine (HFULL.out _ J2.out).mono ?_); rintro e w4 ⟨rfl, h4⟩; have J4 := hid h4; clear h4))
  go_ret2
  exact ⟨_, rfl, J4.out⟩
end Go.Proofs.YtbgckolcimlofaaGreatDoor
