/-
  PackFits and the start of the law; under the value predicate.
  Plain facts on UTF-8: what one rune takes; no conditions.
  Plain facts on places in a list; no conditions.
  The plain word of the quoted text, and the loop over its bytes; no conditions.
-/
import Derived.Test.YtbgckolcimlofaaGreatDoorProg
import Derived.Test.YtbgckolcimlofaaGreatDoorT18
import Derived.Test.YtbgckolcimlofaaGreatDoorT19
import Derived.Deep.QuietTactic
import Derived.BigQuiet
import Derived.Deep.LoopGhost
import Derived.Deep.DeepCutAuto
import Derived.Handy
import Derived.StillTailTactics
import Derived.Test.YtbgckolcimlofaaGreatDoorT02
import Derived.Test.YtbgckolcimlofaaGreatDoorT11
set_option linter.unusedVariables false
set_option linter.unusedSimpArgs false
namespace Go.Proofs.YtbgckolcimlofaaGreatDoor
open Go.RowKit YtbgckolcimlofaaGreatDoorPj

def PFitsPost (p : P) (w : World) (e : Ending) (w' : World) : Prop :=
  ∃ b, e = .returned (.bool b) ∧ Only (fun _ => False) w w' ∧ (b = true → Fit 6 p ∧ cnt p ≤ 2000)
set_option maxRecDepth 100000 in
set_option maxHeartbeats 1000000 in
theorem pFits (p : P) (cs : List Value) (B : Nat) (w : World) (h : IsPack w B p cs) (hB : B ≤ w.heap.size) :
    Calls Tryz.prog 6 #[.agg cs.toArray, .int .i64 6] w (PFitsPost p w) := by
  have HH := hid h
  obtain ⟨A, cap, rfl, hlen, hks⟩ := h.open
  have HB := hid hB
  clear h hks
  generalize hL : p.kids.length = L at *
  have HL := hid hL
  clear hL
  go_enter Tryz.func6, Tryz.ntmps6
  go_wp2_with (first
    | (go_at_call 15; refine (fewPacks p _ B _ (w.heap.size + 1) 2000 (HH.out.only ((Only.refl (fun _ => False) _).alloc _ |>.alloc _) HB.out (fun _ _ h => h)) (by omega) (by simp) (by go_simp) (by go_simp) (by omega) (by omega)).mono ?_; rintro e w1 ⟨b, n', rfl, h1, h2, h3, h4⟩; have HX : Hid (Only (fun _ => False) w w1) := hid (((Only.refl (fun _ => False) _).alloc _ |>.alloc _).trans' h1 (fun i hi e => by have e : i = w.heap.size + 1 := e; omega)); have hz := h1.size; obtain ⟨c0, c1, c2, c3, c4, -, -, -, -, -⟩ := ((Five.new w _ _ _ _ _ 25).only (Only.alloc (Only.refl (fun _ => False) _) _) (fun h => h)).only h1 (show ¬ w.heap.size = w.heap.size + 1 by omega); have H4 := hid h4; clear h1 h2 h3 h4; cases b)
    | (go_at_call 16; refine (packFits p _ B _ 6 (HH.out.only HX.out HB.out (fun _ _ h => h)) (by have := HX.out.size; omega) (by omega)).mono ?_; rintro e w2 ⟨b, rfl, h1, h2⟩; have H1 := hid h1; have H2 := hid h2; clear h1 h2))
  · go_ret
    exact ⟨false, rfl, HX.out, fun h => (nomatch h)⟩
  · go_ret
    refine ⟨_, rfl, HX.out.trans H1.out, fun h => ⟨H2.out h, ?_⟩⟩
    have := H4.out trivial
    omega
set_option maxRecDepth 100000 in
set_option maxHeartbeats 1000000 in
theorem zzFits (p : P) (cs : List Value) (B : Nat) (w : World) (h : IsPack w B p cs) (hB : B ≤ w.heap.size) :
    Calls Tryz.prog 4 #[.agg cs.toArray] w (fun e w' => ∃ b, e = .returned (.bool b) ∧ Only (fun _ => False) w w') := by
  have HT := hid h.nums
  obtain ⟨A, cap, rfl, hlen, hks⟩ := h.open
  have ht : p.text.size ≤ 9223372036854775807 := HT.out.2.2
  clear h hks
  generalize hL : p.kids.length = L at *
  have HL := hid hL
  clear hL
  generalize hT : p.text = t at *
  by_cases h1 : t.size ≤ 2147483647
  · by_cases h2 : L ≤ 2147483647
    · go_enter Tryz.func4, Tryz.ntmps4
      go_wp2
      go_ret
      exact ⟨true, rfl, by simp⟩
    · go_enter Tryz.func4, Tryz.ntmps4
      go_wp2
      go_ret
      exact ⟨false, rfl, by simp⟩
  · go_enter Tryz.func4, Tryz.ntmps4
    go_wp2
    go_ret
    exact ⟨false, rfl, by simp⟩
end Go.Proofs.YtbgckolcimlofaaGreatDoor
namespace YtbgckolcimlofaaGreatDoorPj
theorem escB_bs (b : UInt8) (h : b.toNat = 92 ∨ b.toNat = 34) : escB b = [92, b] := by
  unfold escB
  rw [if_pos (by rcases h with h | h; exact Or.inl ((u8_iff b 92 (by omega)).2 h); exact Or.inr ((u8_iff b 34 (by omega)).2 h))]
theorem u8_ne (b : UInt8) (n : Nat) (hn : n < 256) (h : b.toNat ≠ n) : b ≠ UInt8.ofNat n := fun e => h ((u8_iff b n hn).1 e)
theorem escB_10 (b : UInt8) (h : b.toNat = 10) : escB b = [92, 110] := by
  rw [(u8_iff b 10 (by omega)).2 h]; decide
theorem escB_13 (b : UInt8) (h : b.toNat = 13) : escB b = [92, 114] := by
  rw [(u8_iff b 13 (by omega)).2 h]; decide
theorem escB_9 (b : UInt8) (h : b.toNat = 9) : escB b = [92, 116] := by
  rw [(u8_iff b 9 (by omega)).2 h]; decide
theorem escB_hex (b : UInt8) (h : b.toNat < 32 ∨ b.toNat = 60 ∨ b.toNat = 62 ∨ b.toNat = 38) (h1 : b.toNat ≠ 10) (h2 : b.toNat ≠ 13) (h3 : b.toNat ≠ 9) :
    escB b = [92, 117, 48, 48, hexd (b.toNat / 16), hexd (b.toNat % 16)] := by
  unfold escB
  have n92 := u8_ne b 92 (by omega) (by omega)
  have n34 := u8_ne b 34 (by omega) (by omega)
  have n10 := u8_ne b 10 (by omega) h1
  have n13 := u8_ne b 13 (by omega) h2
  have n9 := u8_ne b 9 (by omega) h3
  rw [if_neg (by intro h; rcases h with h | h; exact n92 h; exact n34 h), if_neg (show ¬ b = 10 from n10), if_neg (show ¬ b = 13 from n13), if_neg (show ¬ b = 9 from n9), if_pos]
  rcases h with h | h | h | h
  · left; rw [UInt8.lt_iff_toNat_lt]; exact h
  · right; left; exact (u8_iff b 60 (by omega)).2 h
  · right; right; left; exact (u8_iff b 62 (by omega)).2 h
  · right; right; right; exact (u8_iff b 38 (by omega)).2 h
def hextab : ByteArray := ⟨#[48, 49, 50, 51, 52, 53, 54, 55, 56, 57, 97, 98, 99, 100, 101, 102]⟩
theorem hex_tab : ∀ m : Fin 16, hextab[m.val]'(m.isLt) = hexd m.val := by decide
end YtbgckolcimlofaaGreatDoorPj
namespace Go.Proofs.YtbgckolcimlofaaGreatDoor
open Go.RowKit YtbgckolcimlofaaGreatDoorPj
theorem ixHex8 (n : Nat) (hn : n < 16) (w : World) : (Instr.index 9 (.string ⟨#[48, 49, 50, 51, 52, 53, 54, 55, 56, 57, 97, 98, 99, 100, 101, 102]⟩) (.int .u8 (n : Int))).run Tryz.prog w = .ok (.int .u8 ((hexd n).toNat : Int)) w := by
  have h : n = 0 ∨ n = 1 ∨ n = 2 ∨ n = 3 ∨ n = 4 ∨ n = 5 ∨ n = 6 ∨ n = 7 ∨ n = 8 ∨ n = 9 ∨ n = 10 ∨ n = 11 ∨ n = 12 ∨ n = 13 ∨ n = 14 ∨ n = 15 := by omega
  rcases h with rfl | rfl | rfl | rfl | rfl | rfl | rfl | rfl | rfl | rfl | rfl | rfl | rfl | rfl | rfl | rfl <;> (clear hn; show _ = _; kernel_rfl)
theorem ixHex32 (n : Nat) (hn : n < 16) (w : World) : (Instr.index 9 (.string ⟨#[48, 49, 50, 51, 52, 53, 54, 55, 56, 57, 97, 98, 99, 100, 101, 102]⟩) (.int .i32 (n : Int))).run Tryz.prog w = .ok (.int .u8 ((hexd n).toNat : Int)) w := by
  have h : n = 0 ∨ n = 1 ∨ n = 2 ∨ n = 3 ∨ n = 4 ∨ n = 5 ∨ n = 6 ∨ n = 7 ∨ n = 8 ∨ n = 9 ∨ n = 10 ∨ n = 11 ∨ n = 12 ∨ n = 13 ∨ n = 14 ∨ n = 15 := by omega
  rcases h with rfl | rfl | rfl | rfl | rfl | rfl | rfl | rfl | rfl | rfl | rfl | rfl | rfl | rfl | rfl | rfl <;> (clear hn; show _ = _; kernel_rfl)
set_option maxRecDepth 100000 in
theorem and15_u8 : ∀ b : Fin 256, bits .and .u8 (b.val : Int) 15 = ((b.val % 16 : Nat) : Int) := by decide
end Go.Proofs.YtbgckolcimlofaaGreatDoor
namespace Go.Proofs.YtbgckolcimlofaaGreatDoor
open Go.RowKit YtbgckolcimlofaaGreatDoorPj

/-- 'utf8.DecodeRune' answers in a world. -/
def DecCall (w : World) : Prop := ∀ (v : Value) (bs : List UInt8), InRoom w (fun _ => True) v bs → 0 < bs.length → Calls Tryz.prog 98 #[v] w fun e w' => e = .returned (.tuple #[.int .i32 ((Go.Lib.decodeL bs).1 : Nat), .int .i64 ((Go.Lib.decodeL bs).2 : Nat)]) ∧ Only (fun _ => False) w w'
def RqPost (G : Nat → Prop) (t : Nat) (out : List UInt8) (w : World) (e : Ending) (w' : World) : Prop := ∃ z : Int, e = .returned (.tuple #[.int .i64 z, .nilIface]) ∧ Wrote G t out w w'
theorem InRoom.wrote {w w' : World} {F G : Nat → Prop} {t : Nat} {out bs : List UInt8} {v : Value} (h : InRoom w F v bs) (hw : Wrote G t out w w') (hFG : ∀ k, F k → ¬ G k) : InRoom w' F v bs := by
  obtain ⟨G', _, _, ho⟩ := hw
  exact h.only ho hFG
theorem InRoom.part {w : World} {F : Nat → Prop} {g o n cap : Nat} {bs : List UInt8} (h : InRoom w F (.slice (some ⟨g, o, none⟩) n cap) bs) (a m c : Nat) (hm : a + m ≤ bs.length) (hc : m ≤ c ∧ c ≤ 4398046511104) : InRoom w F (.slice (some ⟨g, o + a, none⟩) m c) ((bs.drop a).take m) := by
  obtain ⟨A, c', e, h1, h2, h3⟩ := h
  injection e with e1 e2 e3
  subst e1 e2 e3
  have hl : ((bs.drop a).take m).length = m := by rw [List.length_take, List.length_drop]; omega
  refine ⟨_, _, by rw [hl], by omega, hc.2, fun j hj => ?_⟩
  obtain ⟨b, off, e, hb, hcell⟩ := h3 (a + j) (by omega)
  injection e with e
  injection e with e1 e2
  subst e1 e2
  refine ⟨g, o + a, rfl, hb, ?_⟩
  rw [List.getElem_take, List.getElem_drop, Nat.add_assoc]
  exact hcell
theorem InRoom.mono {w : World} {F F' : Nat → Prop} {v : Value} {bs : List UInt8} (h : InRoom w F v bs) (hF : ∀ k, F k → F' k) : InRoom w F' v bs := by
  obtain ⟨A, c', e, h1, h2, h3⟩ := h
  refine ⟨A, c', e, h1, h2, fun j hj => ?_⟩
  obtain ⟨b, off, e, hb, hcell⟩ := h3 j hj
  exact ⟨b, off, e, hF b hb, hcell⟩
theorem seg_snoc (bs : List UInt8) (st i k : Nat) (h1 : st ≤ i) (h2 : i + k ≤ bs.length) : (bs.drop st).take (i + k - st) = (bs.drop st).take (i - st) ++ (bs.drop i).take k := by
  have e : i + k - st = (i - st) + k := by omega
  rw [e, List.take_add, List.drop_drop]
  congr 2
  congr 1
  omega
theorem drop_cons_get (bs : List UInt8) (i : Nat) (h : i < bs.length) : bs.drop i = bs[i] :: bs.drop (i + 1) := List.drop_eq_getElem_cons h
theorem nilW (a : Addr) (w : World) : (nilAhead 396 49 (.pointer (some a)) "Write").run Tryz.prog w = .ok (some false) w := by kernel_rfl
theorem hexAt (k n : Nat) (h : k < hextab.size) (e : k = n) : hextab[k] = hexd n := by
  subst e
  exact hex_tab ⟨k, h⟩
theorem writeByte_eq (t : Nat) (b b' : UInt8) (e : b = b') (G : Nat → Prop) (out : List UInt8) (w0 w : World) (h : Wrote G t out w0 w) (hl : out.length ≤ 70368744177664) :
    Calls Tryz.prog 197 #[.pointer (some ⟨t, 0, none⟩), .int .u8 (b.toNat : Int)] w (TxtPost G t (out ++ [b']) .nilIface w0) := e ▸ writeByte t b G out w0 w h hl
theorem nilWB (a : Addr) (w : World) : (nilAhead 396 49 (.pointer (some a)) "WriteByte").run Tryz.prog w = .ok (some false) w := by kernel_rfl
end Go.Proofs.YtbgckolcimlofaaGreatDoor
