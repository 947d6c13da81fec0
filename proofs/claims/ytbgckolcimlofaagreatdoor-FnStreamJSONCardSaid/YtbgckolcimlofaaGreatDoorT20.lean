/-
  samePack compares two values; under the value predicate.
  emptyKeys; under the value predicate.
-/
import Derived.Test.YtbgckolcimlofaaGreatDoorProg
import Derived.Test.YtbgckolcimlofaaGreatDoorT01
import Derived.Deep.QuietTactic
import Derived.BigQuiet
import Derived.Deep.LoopGhost
import Derived.Deep.DeepCutAuto
import Derived.Handy
import Derived.StillTailTactics
set_option linter.unusedVariables false
set_option linter.unusedSimpArgs false
namespace Go.Proofs.YtbgckolcimlofaaGreatDoor
open Go.RowKit YtbgckolcimlofaaGreatDoorPj

def SameIH (B : Nat) (ks ls : List P) : Prop :=
  ∀ (j : Nat) (hj : j < ks.length) (hj' : j < ls.length) (cs ds : List Value) (w : World), IsPack w B ks[j] cs → IsPack w B ls[j] ds → B ≤ w.heap.size →
    Calls Tryz.prog 12 #[.agg cs.toArray, .agg ds.toArray] w fun e w' => e = .returned (.bool true) ∧ Only (fun _ => False) w w'

set_option maxRecDepth 100000 in
set_option maxHeartbeats 1000000 in
theorem same_a (k k' n e : Int) (t : ByteArray) (ks ls : List P) (A A' : Option Addr) (cap cap' : Nat) (B : Nat) (w : World) (ih : SameIH B ks ls) (hl : ks.length = ls.length) (hB : B ≤ w.heap.size)
    (h1 : Kids w B A ks) (h2 : Kids w B A' ls) (hlen : ks.length ≤ 9223372036854775807) (hn0 : 0 ≤ n) (hn9 : n < 9223372036854775808) (hk : k = 2) (hk' : k' = 3) :
    Calls Tryz.prog 12 #[.agg #[.int .i64 k, .int .u64 n, .string t, .int .i64 e, .slice A ks.length cap], .agg #[.int .i64 k', .int .u64 n, .string t, .int .i64 e, .slice A' ls.length cap']] w fun e w' => e = .returned (.bool true) ∧ Only (fun _ => False) w w' := by
  have IH := hid ih
  rw [← hl]
  generalize hL : ks.length = L at hlen ⊢
  have HL := hid hL
  have HL' := hid hl
  have H1 := hid h1
  have H2 := hid h2
  clear hL hl h1 h2 ih
  subst hk hk'
  go_enter Tryz.func12, Tryz.ntmps12
  go_wp2
  go_loopg [64] L (fun m v wr => ∃ j : Nat, j + m = L ∧ v = .int .i64 (j : Nat) ∧ Only (fun _ => False) w wr ∧ wr.cell? ⟨w.heap.size, 4, none⟩ = some (.slice A L cap) ∧ wr.cell? ⟨w.heap.size + 1, 4, none⟩ = some (.slice A' L cap'))
  case atStart => exact ⟨0, by omega, rfl, by simp, by go_simp, by go_simp⟩
  case round =>
    obtain ⟨j, hj, rfl, ho, hb1, hb2⟩ := hrel
    by_cases hlt : j < L
    · have hlt1 : j < ks.length := by have := HL.out; omega
      have hlt2 : j < ls.length := by have := HL.out; have := HL'.out; omega
      have hs := ho.size
      have hw1 : w.heap.size + 1 < wr.heap.size := World.block_lt_of_cell? wr _ hb2
      obtain ⟨b, off, A1, cap1, rfl, hb, d0, d1, d2, d3, d4, hp⟩ := (H1.out.only ho hB (fun _ _ h => h)) j hlt1
      obtain ⟨b', off', A2, cap2, rfl, hb', d0', d1', d2', d3', d4', hp'⟩ := (H2.out.only ho hB (fun _ _ h => h)) j hlt2
      have HP := hid hp
      have HP' := hid hp'
      have HO := hid ho
      clear hp hp' ho
      go_wp2_with (fail)
      go_still_tail 10, (by kernel_rfl)
      show wpList _ _ _ _ _ wr.drew
      go_wp2_with (go_at_call 12; refine (IH.out j hlt1 hlt2 _ _ _ (HP.out.only (show Only (fun _ => False) wr _ by simp) (by omega) (fun _ _ h => h)) (HP'.out.only (show Only (fun _ => False) wr _ by simp) (by omega) (fun _ _ h => h)) (by simp; omega)).mono ?_; rintro e w1 ⟨rfl, h1⟩; have HW := hid h1; clear h1)
      go_roundg (gk - 1)
      case measure => omega
      case rel =>
        have hX : Only (fun _ => False) wr w1 := ((Only.refl _ wr).drew).trans HW.out
        refine ⟨j + 1, by omega, by go_num, HO.out.trans hX, ?_, ?_⟩
        · rw [hX.cell (by omega) (fun h => h)]; exact hb1
        · rw [hX.cell (by omega) (fun h => h)]; exact hb2
    · go_wp2
      go_ret
      exact ⟨rfl, ho⟩
set_option maxRecDepth 100000 in
set_option maxHeartbeats 1000000 in
theorem same_b (k k' n e : Int) (t : ByteArray) (ks ls : List P) (A A' : Option Addr) (cap cap' : Nat) (B : Nat) (w : World) (ih : SameIH B ks ls) (hl : ks.length = ls.length) (hB : B ≤ w.heap.size)
    (h1 : Kids w B A ks) (h2 : Kids w B A' ls) (hlen : ks.length ≤ 9223372036854775807) (hn0 : 0 ≤ n) (hn9 : n < 9223372036854775808) (hk : k = 3) (hk' : k' = 2) :
    Calls Tryz.prog 12 #[.agg #[.int .i64 k, .int .u64 n, .string t, .int .i64 e, .slice A ks.length cap], .agg #[.int .i64 k', .int .u64 n, .string t, .int .i64 e, .slice A' ls.length cap']] w fun e w' => e = .returned (.bool true) ∧ Only (fun _ => False) w w' := by
  have IH := hid ih
  rw [← hl]
  generalize hL : ks.length = L at hlen ⊢
  have HL := hid hL
  have HL' := hid hl
  have H1 := hid h1
  have H2 := hid h2
  clear hL hl h1 h2 ih
  subst hk hk'
  go_enter Tryz.func12, Tryz.ntmps12
  go_wp2
  go_loopg [64] L (fun m v wr => ∃ j : Nat, j + m = L ∧ v = .int .i64 (j : Nat) ∧ Only (fun _ => False) w wr ∧ wr.cell? ⟨w.heap.size, 4, none⟩ = some (.slice A L cap) ∧ wr.cell? ⟨w.heap.size + 1, 4, none⟩ = some (.slice A' L cap'))
  case atStart => exact ⟨0, by omega, rfl, by simp, by go_simp, by go_simp⟩
  case round =>
    obtain ⟨j, hj, rfl, ho, hb1, hb2⟩ := hrel
    by_cases hlt : j < L
    · have hlt1 : j < ks.length := by have := HL.out; omega
      have hlt2 : j < ls.length := by have := HL.out; have := HL'.out; omega
      have hs := ho.size
      have hw1 : w.heap.size + 1 < wr.heap.size := World.block_lt_of_cell? wr _ hb2
      obtain ⟨b, off, A1, cap1, rfl, hb, d0, d1, d2, d3, d4, hp⟩ := (H1.out.only ho hB (fun _ _ h => h)) j hlt1
      obtain ⟨b', off', A2, cap2, rfl, hb', d0', d1', d2', d3', d4', hp'⟩ := (H2.out.only ho hB (fun _ _ h => h)) j hlt2
      have HP := hid hp
      have HP' := hid hp'
      have HO := hid ho
      clear hp hp' ho
      go_wp2_with (fail)
      go_still_tail 10, (by kernel_rfl)
      show wpList _ _ _ _ _ wr.drew
      go_wp2_with (go_at_call 12; refine (IH.out j hlt1 hlt2 _ _ _ (HP.out.only (show Only (fun _ => False) wr _ by simp) (by omega) (fun _ _ h => h)) (HP'.out.only (show Only (fun _ => False) wr _ by simp) (by omega) (fun _ _ h => h)) (by simp; omega)).mono ?_; rintro e w1 ⟨rfl, h1⟩; have HW := hid h1; clear h1)
      go_roundg (gk - 1)
      case measure => omega
      case rel =>
        have hX : Only (fun _ => False) wr w1 := ((Only.refl _ wr).drew).trans HW.out
        refine ⟨j + 1, by omega, by go_num, HO.out.trans hX, ?_, ?_⟩
        · rw [hX.cell (by omega) (fun h => h)]; exact hb1
        · rw [hX.cell (by omega) (fun h => h)]; exact hb2
    · go_wp2
      go_ret
      exact ⟨rfl, ho⟩
set_option maxRecDepth 100000 in
set_option maxHeartbeats 1000000 in
theorem same_c (k k' n e : Int) (t : ByteArray) (ks ls : List P) (A A' : Option Addr) (cap cap' : Nat) (B : Nat) (w : World) (ih : SameIH B ks ls) (hl : ks.length = ls.length) (hB : B ≤ w.heap.size)
    (h1 : Kids w B A ks) (h2 : Kids w B A' ls) (hlen : ks.length ≤ 9223372036854775807) (hn0 : 0 ≤ n) (hn9 : n < 9223372036854775808) (hk : k = 2) (hk' : k' = 2) :
    Calls Tryz.prog 12 #[.agg #[.int .i64 k, .int .u64 n, .string t, .int .i64 e, .slice A ks.length cap], .agg #[.int .i64 k', .int .u64 n, .string t, .int .i64 e, .slice A' ls.length cap']] w fun e w' => e = .returned (.bool true) ∧ Only (fun _ => False) w w' := by
  have IH := hid ih
  rw [← hl]
  generalize hL : ks.length = L at hlen ⊢
  have HL := hid hL
  have HL' := hid hl
  have H1 := hid h1
  have H2 := hid h2
  clear hL hl h1 h2 ih
  subst hk hk'
  go_enter Tryz.func12, Tryz.ntmps12
  go_wp2
  go_loopg [64] L (fun m v wr => ∃ j : Nat, j + m = L ∧ v = .int .i64 (j : Nat) ∧ Only (fun _ => False) w wr ∧ wr.cell? ⟨w.heap.size, 4, none⟩ = some (.slice A L cap) ∧ wr.cell? ⟨w.heap.size + 1, 4, none⟩ = some (.slice A' L cap'))
  case atStart => exact ⟨0, by omega, rfl, by simp, by go_simp, by go_simp⟩
  case round =>
    obtain ⟨j, hj, rfl, ho, hb1, hb2⟩ := hrel
    by_cases hlt : j < L
    · have hlt1 : j < ks.length := by have := HL.out; omega
      have hlt2 : j < ls.length := by have := HL.out; have := HL'.out; omega
      have hs := ho.size
      have hw1 : w.heap.size + 1 < wr.heap.size := World.block_lt_of_cell? wr _ hb2
      obtain ⟨b, off, A1, cap1, rfl, hb, d0, d1, d2, d3, d4, hp⟩ := (H1.out.only ho hB (fun _ _ h => h)) j hlt1
      obtain ⟨b', off', A2, cap2, rfl, hb', d0', d1', d2', d3', d4', hp'⟩ := (H2.out.only ho hB (fun _ _ h => h)) j hlt2
      have HP := hid hp
      have HP' := hid hp'
      have HO := hid ho
      clear hp hp' ho
      go_wp2_with (fail)
      go_still_tail 10, (by kernel_rfl)
      show wpList _ _ _ _ _ wr.drew
      go_wp2_with (go_at_call 12; refine (IH.out j hlt1 hlt2 _ _ _ (HP.out.only (show Only (fun _ => False) wr _ by simp) (by omega) (fun _ _ h => h)) (HP'.out.only (show Only (fun _ => False) wr _ by simp) (by omega) (fun _ _ h => h)) (by simp; omega)).mono ?_; rintro e w1 ⟨rfl, h1⟩; have HW := hid h1; clear h1)
      go_roundg (gk - 1)
      case measure => omega
      case rel =>
        have hX : Only (fun _ => False) wr w1 := ((Only.refl _ wr).drew).trans HW.out
        refine ⟨j + 1, by omega, by go_num, HO.out.trans hX, ?_, ?_⟩
        · rw [hX.cell (by omega) (fun h => h)]; exact hb1
        · rw [hX.cell (by omega) (fun h => h)]; exact hb2
    · go_wp2
      go_ret
      exact ⟨rfl, ho⟩
set_option maxRecDepth 100000 in
set_option maxHeartbeats 1000000 in
theorem same_d (k k' n e : Int) (t : ByteArray) (ks ls : List P) (A A' : Option Addr) (cap cap' : Nat) (B : Nat) (w : World) (ih : SameIH B ks ls) (hl : ks.length = ls.length) (hB : B ≤ w.heap.size)
    (h1 : Kids w B A ks) (h2 : Kids w B A' ls) (hlen : ks.length ≤ 9223372036854775807) (hn0 : 0 ≤ n) (hn9 : 9223372036854775808 ≤ n) (hn8 : n < 18446744073709551616) (hk : k = 2) (hk' : k' = 2) :
    Calls Tryz.prog 12 #[.agg #[.int .i64 k, .int .u64 n, .string t, .int .i64 e, .slice A ks.length cap], .agg #[.int .i64 k', .int .u64 n, .string t, .int .i64 e, .slice A' ls.length cap']] w fun e w' => e = .returned (.bool true) ∧ Only (fun _ => False) w w' := by
  have IH := hid ih
  rw [← hl]
  generalize hL : ks.length = L at hlen ⊢
  have HL := hid hL
  have HL' := hid hl
  have H1 := hid h1
  have H2 := hid h2
  clear hL hl h1 h2 ih
  subst hk hk'
  have hw : wrap64 n < 0 := by unfold wrap64; omega
  clear hn9 hn8 hn0
  go_enter Tryz.func12, Tryz.ntmps12
  go_wp2
  go_loopg [64] L (fun m v wr => ∃ j : Nat, j + m = L ∧ v = .int .i64 (j : Nat) ∧ Only (fun _ => False) w wr ∧ wr.cell? ⟨w.heap.size, 4, none⟩ = some (.slice A L cap) ∧ wr.cell? ⟨w.heap.size + 1, 4, none⟩ = some (.slice A' L cap'))
  case atStart => exact ⟨0, by omega, rfl, by simp, by go_simp, by go_simp⟩
  case round =>
    obtain ⟨j, hj, rfl, ho, hb1, hb2⟩ := hrel
    by_cases hlt : j < L
    · have hlt1 : j < ks.length := by have := HL.out; omega
      have hlt2 : j < ls.length := by have := HL.out; have := HL'.out; omega
      have hs := ho.size
      have hw1 : w.heap.size + 1 < wr.heap.size := World.block_lt_of_cell? wr _ hb2
      obtain ⟨b, off, A1, cap1, rfl, hb, d0, d1, d2, d3, d4, hp⟩ := (H1.out.only ho hB (fun _ _ h => h)) j hlt1
      obtain ⟨b', off', A2, cap2, rfl, hb', d0', d1', d2', d3', d4', hp'⟩ := (H2.out.only ho hB (fun _ _ h => h)) j hlt2
      have HP := hid hp
      have HP' := hid hp'
      have HO := hid ho
      clear hp hp' ho
      go_wp2_with (fail)
      go_still_tail 10, (by kernel_rfl)
      show wpList _ _ _ _ _ wr.drew
      go_wp2_with (go_at_call 12; refine (IH.out j hlt1 hlt2 _ _ _ (HP.out.only (show Only (fun _ => False) wr _ by simp) (by omega) (fun _ _ h => h)) (HP'.out.only (show Only (fun _ => False) wr _ by simp) (by omega) (fun _ _ h => h)) (by simp; omega)).mono ?_; rintro e w1 ⟨rfl, h1⟩; have HW := hid h1; clear h1)
      go_roundg (gk - 1)
      case measure => omega
      case rel =>
        have hX : Only (fun _ => False) wr w1 := ((Only.refl _ wr).drew).trans HW.out
        refine ⟨j + 1, by omega, by go_num, HO.out.trans hX, ?_, ?_⟩
        · rw [hX.cell (by omega) (fun h => h)]; exact hb1
        · rw [hX.cell (by omega) (fun h => h)]; exact hb2
    · go_wp2
      go_ret
      exact ⟨rfl, ho⟩
set_option maxRecDepth 100000 in
set_option maxHeartbeats 1000000 in
theorem same_e (k k' n e : Int) (t : ByteArray) (ks ls : List P) (A A' : Option Addr) (cap cap' : Nat) (B : Nat) (w : World) (ih : SameIH B ks ls) (hl : ks.length = ls.length) (hB : B ≤ w.heap.size)
    (h1 : Kids w B A ks) (h2 : Kids w B A' ls) (hlen : ks.length ≤ 9223372036854775807) (hn0 : 0 ≤ n)  (hk : (k == 2) = false) (hk' : k = k') :
    Calls Tryz.prog 12 #[.agg #[.int .i64 k, .int .u64 n, .string t, .int .i64 e, .slice A ks.length cap], .agg #[.int .i64 k', .int .u64 n, .string t, .int .i64 e, .slice A' ls.length cap']] w fun e w' => e = .returned (.bool true) ∧ Only (fun _ => False) w w' := by
  have IH := hid ih
  rw [← hl]
  generalize hL : ks.length = L at hlen ⊢
  have HL := hid hL
  have HL' := hid hl
  have H1 := hid h1
  have H2 := hid h2
  clear hL hl h1 h2 ih
  subst hk'
  go_enter Tryz.func12, Tryz.ntmps12
  go_wp2
  go_loopg [64] L (fun m v wr => ∃ j : Nat, j + m = L ∧ v = .int .i64 (j : Nat) ∧ Only (fun _ => False) w wr ∧ wr.cell? ⟨w.heap.size, 4, none⟩ = some (.slice A L cap) ∧ wr.cell? ⟨w.heap.size + 1, 4, none⟩ = some (.slice A' L cap'))
  case atStart => exact ⟨0, by omega, rfl, by simp, by go_simp, by go_simp⟩
  case round =>
    obtain ⟨j, hj, rfl, ho, hb1, hb2⟩ := hrel
    by_cases hlt : j < L
    · have hlt1 : j < ks.length := by have := HL.out; omega
      have hlt2 : j < ls.length := by have := HL.out; have := HL'.out; omega
      have hs := ho.size
      have hw1 : w.heap.size + 1 < wr.heap.size := World.block_lt_of_cell? wr _ hb2
      obtain ⟨b, off, A1, cap1, rfl, hb, d0, d1, d2, d3, d4, hp⟩ := (H1.out.only ho hB (fun _ _ h => h)) j hlt1
      obtain ⟨b', off', A2, cap2, rfl, hb', d0', d1', d2', d3', d4', hp'⟩ := (H2.out.only ho hB (fun _ _ h => h)) j hlt2
      have HP := hid hp
      have HP' := hid hp'
      have HO := hid ho
      clear hp hp' ho
      go_wp2_with (fail)
      go_still_tail 10, (by kernel_rfl)
      show wpList _ _ _ _ _ wr.drew
      go_wp2_with (go_at_call 12; refine (IH.out j hlt1 hlt2 _ _ _ (HP.out.only (show Only (fun _ => False) wr _ by simp) (by omega) (fun _ _ h => h)) (HP'.out.only (show Only (fun _ => False) wr _ by simp) (by omega) (fun _ _ h => h)) (by simp; omega)).mono ?_; rintro e w1 ⟨rfl, h1⟩; have HW := hid h1; clear h1)
      go_roundg (gk - 1)
      case measure => omega
      case rel =>
        have hX : Only (fun _ => False) wr w1 := ((Only.refl _ wr).drew).trans HW.out
        refine ⟨j + 1, by omega, by go_num, HO.out.trans hX, ?_, ?_⟩
        · rw [hX.cell (by omega) (fun h => h)]; exact hb1
        · rw [hX.cell (by omega) (fun h => h)]; exact hb2
    · go_wp2
      go_ret
      exact ⟨rfl, ho⟩
theorem nk_cases {k k' n : Int} (h : nk k n = nk k' n) :
    (k = 2 ∧ k' = 3 ∧ n < 9223372036854775808) ∨ (k = 3 ∧ k' = 2 ∧ n < 9223372036854775808) ∨ (k = 2 ∧ k' = 2 ∧ n < 9223372036854775808) ∨ (k = 2 ∧ k' = 2 ∧ 9223372036854775808 ≤ n) ∨ (k ≠ 2 ∧ k = k') := by
  unfold nk at h
  split at h <;> split at h <;> omega

theorem samePack (p q : P) (hs : Same p q) : ∀ (cs ds : List Value) (B : Nat) (w : World) (_ : IsPack w B p cs) (_ : IsPack w B q ds) (_ : B ≤ w.heap.size),
    Calls Tryz.prog 12 #[.agg cs.toArray, .agg ds.toArray] w fun e w' => e = .returned (.bool true) ∧ Only (fun _ => False) w w' := by
  induction hs with
  | mk p q hk hn ht he hl hks ih =>
    intro cs ds B w h h' hB
    have IH : SameIH B p.kids q.kids := fun j hj hj' cs ds w h h' hB => ih j hj hj' cs ds B w h h' hB
    obtain ⟨hn0, hn8, _⟩ := h.nums
    obtain ⟨A, cap, rfl, hlen, hK⟩ := h.open
    obtain ⟨A', cap', rfl, hlen', hK'⟩ := h'.open
    rw [← hn] at hk
    rw [← hn, ← ht, ← he]
    rcases nk_cases hk with ⟨h1, h2, h3⟩ | ⟨h1, h2, h3⟩ | ⟨h1, h2, h3⟩ | ⟨h1, h2, h3⟩ | ⟨h1, h2⟩
    · exact same_a _ _ _ _ _ _ _ A A' cap cap' B w IH hl hB hK hK' hlen hn0 h3 h1 h2
    · exact same_b _ _ _ _ _ _ _ A A' cap cap' B w IH hl hB hK hK' hlen hn0 h3 h1 h2
    · exact same_c _ _ _ _ _ _ _ A A' cap cap' B w IH hl hB hK hK' hlen hn0 h3 h1 h2
    · exact same_d _ _ _ _ _ _ _ A A' cap cap' B w IH hl hB hK hK' hlen hn0 h3 hn8 h1 h2
    · exact same_e _ _ _ _ _ _ _ A A' cap cap' B w IH hl hB hK hK' hlen hn0 (by simp [h1]) h2
end Go.Proofs.YtbgckolcimlofaaGreatDoor
namespace Go.Proofs.YtbgckolcimlofaaGreatDoor
open Go.RowKit YtbgckolcimlofaaGreatDoorPj

def NoEmptyPost (p : P) (w : World) (e : Ending) (w' : World) : Prop :=
  ∃ b, e = .returned (.bool b) ∧ Only (fun _ => False) w w' ∧ (b = false → NoEmpty p)
def NoEmptyIH (B : Nat) (ks : List P) : Prop :=
  ∀ (j : Nat) (hj : j < ks.length) (cs : List Value) (w : World), IsPack w B ks[j] cs → B ≤ w.heap.size → Calls Tryz.prog 9 #[.agg cs.toArray] w (NoEmptyPost ks[j] w)

set_option maxRecDepth 100000 in
set_option maxHeartbeats 1000000 in
theorem emptyKeys_9  (n e : Int) (t : ByteArray) (p : P) (A : Option Addr) (cap : Nat) (B : Nat) (w : World) (ih : NoEmptyIH B p.kids) (hB : B ≤ w.heap.size) (hp : p.kind = 9) (hk : Kids w B A p.kids) (hlen : p.kids.length ≤ 9223372036854775807) :
    Calls Tryz.prog 9 #[.agg #[.int .i64 9, .int .u64 n, .string t, .int .i64 e, .slice A p.kids.length cap]] w (NoEmptyPost p w) := by
  have IH := hid ih
  have HK := hid hk
  have HP9 := hid hp
  clear ih hk hp
  generalize hL : p.kids.length = L at hlen ⊢
  have HL := hid hL
  clear hL
  go_enter Tryz.func9, Tryz.ntmps9
  go_wp2
  go_loopg [8] L (fun m v wr => ∃ j : Nat, j + m = L ∧ v = .int .i64 (j : Nat) ∧ Only (fun _ => False) w wr ∧ wr.cell? ⟨w.heap.size, 0, none⟩ = some (.int .i64 9) ∧
    Hid (∀ (i : Nat) (h : i < p.kids.length), i < j → (p.kind = 9 → i % 2 = 0 → p.kids[i].text.size ≠ 0) ∧ NoEmpty p.kids[i]))
  case atStart => exact ⟨0, by omega, rfl, by simp, by go_simp, hid fun i _ h => by omega⟩
  case round =>
    obtain ⟨j, hj, rfl, ho, hb1, hno⟩ := hrel
    by_cases hlt : j < L
    · have hlt1 : j < p.kids.length := by have := HL.out; omega
      have hs := ho.size
      have hw1 : w.heap.size < wr.heap.size := World.block_lt_of_cell? wr _ hb1
      obtain ⟨b, off, A1, cap1, rfl, hb, d0, d1, d2, d3, d4, hp⟩ := (HK.out.only ho hB (fun _ _ h => h)) j hlt1
      have HP := hid hp
      have HO := hid ho
      clear hp ho
      go_wp2_with (go_at_call 9; refine (IH.out j hlt1 _ _ (HP.out.only (show Only (fun _ => False) wr _ by simp) (by omega) (fun _ _ h => h)) (by simp; omega)).mono ?_; rintro e w1 ⟨b', rfl, h1, h2⟩; have HW := hid h1; have H2 := hid h2; clear h1 h2; cases b')
      all_goals try first | (go_ret; exact ⟨true, rfl, HO.out.trans (by simp), by simp⟩) | (go_ret; exact ⟨true, rfl, HO.out.trans ((Only.alloc (Only.refl _ _) _).trans HW.out), by simp⟩)
      all_goals
        go_roundg (gk - 1)
        case measure => omega
        case rel =>
          have hX : Only (fun _ => False) wr w1 := (Only.alloc (Only.refl _ _) _).trans HW.out
          refine ⟨j + 1, by omega, by go_num, HO.out.trans hX, (hX.cell hw1 (fun h => h)).trans hb1, hid fun i hi hij => ?_⟩
          by_cases e1 : i = j
          · subst e1
            have h9 := HP9.out
            exact ⟨by intro a b; first | omega | (exact toList_ne (by assumption)) | (rw [h9] at a; subst a; simp_all), H2.out (by trivial)⟩
          · exact hno.out i hi (by omega)
    · go_wp2
      go_ret
      exact ⟨false, rfl, ho, fun _ => .mk p (fun i h => (hno.out i h (by have := HL.out; omega)).1) (fun i h => (hno.out i h (by have := HL.out; omega)).2)⟩

set_option maxRecDepth 100000 in
set_option maxHeartbeats 1000000 in
theorem emptyKeys_o (k : Int) (h9 : (k == 9) = false) (n e : Int) (t : ByteArray) (p : P) (A : Option Addr) (cap : Nat) (B : Nat) (w : World) (ih : NoEmptyIH B p.kids) (hB : B ≤ w.heap.size) (hp : p.kind = k) (hk : Kids w B A p.kids) (hlen : p.kids.length ≤ 9223372036854775807) :
    Calls Tryz.prog 9 #[.agg #[.int .i64 k, .int .u64 n, .string t, .int .i64 e, .slice A p.kids.length cap]] w (NoEmptyPost p w) := by
  have IH := hid ih
  have HK := hid hk
  have HP9 := hid hp
  clear ih hk hp
  generalize hL : p.kids.length = L at hlen ⊢
  have HL := hid hL
  clear hL
  go_enter Tryz.func9, Tryz.ntmps9
  go_wp2
  go_loopg [8] L (fun m v wr => ∃ j : Nat, j + m = L ∧ v = .int .i64 (j : Nat) ∧ Only (fun _ => False) w wr ∧ wr.cell? ⟨w.heap.size, 0, none⟩ = some (.int .i64 k) ∧
    Hid (∀ (i : Nat) (h : i < p.kids.length), i < j → (p.kind = 9 → i % 2 = 0 → p.kids[i].text.size ≠ 0) ∧ NoEmpty p.kids[i]))
  case atStart => exact ⟨0, by omega, rfl, by simp, by go_simp, hid fun i _ h => by omega⟩
  case round =>
    obtain ⟨j, hj, rfl, ho, hb1, hno⟩ := hrel
    by_cases hlt : j < L
    · have hlt1 : j < p.kids.length := by have := HL.out; omega
      have hs := ho.size
      have hw1 : w.heap.size < wr.heap.size := World.block_lt_of_cell? wr _ hb1
      obtain ⟨b, off, A1, cap1, rfl, hb, d0, d1, d2, d3, d4, hp⟩ := (HK.out.only ho hB (fun _ _ h => h)) j hlt1
      have HP := hid hp
      have HO := hid ho
      clear hp ho
      go_wp2_with (go_at_call 9; refine (IH.out j hlt1 _ _ (HP.out.only (show Only (fun _ => False) wr _ by simp) (by omega) (fun _ _ h => h)) (by simp; omega)).mono ?_; rintro e w1 ⟨b', rfl, h1, h2⟩; have HW := hid h1; have H2 := hid h2; clear h1 h2; cases b')
      all_goals try first | (go_ret; exact ⟨true, rfl, HO.out.trans (by simp), by simp⟩) | (go_ret; exact ⟨true, rfl, HO.out.trans ((Only.alloc (Only.refl _ _) _).trans HW.out), by simp⟩)
      all_goals
        go_roundg (gk - 1)
        case measure => omega
        case rel =>
          have hX : Only (fun _ => False) wr w1 := (Only.alloc (Only.refl _ _) _).trans HW.out
          refine ⟨j + 1, by omega, by go_num, HO.out.trans hX, (hX.cell hw1 (fun h => h)).trans hb1, hid fun i hi hij => ?_⟩
          by_cases e1 : i = j
          · subst e1
            have h9 := HP9.out
            exact ⟨by intro a b; first | omega | (exact toList_ne (by assumption)) | (rw [h9] at a; subst a; simp_all), H2.out (by trivial)⟩
          · exact hno.out i hi (by omega)
    · go_wp2
      go_ret
      exact ⟨false, rfl, ho, fun _ => .mk p (fun i h => (hno.out i h (by have := HL.out; omega)).1) (fun i h => (hno.out i h (by have := HL.out; omega)).2)⟩

theorem emptyKeys (p : P) : ∀ (cs : List Value) (B : Nat) (w : World) (_ : IsPack w B p cs) (_ : B ≤ w.heap.size),
    Calls Tryz.prog 9 #[.agg cs.toArray] w (NoEmptyPost p w) := by
  induction p using P.ind with | h p ih => ?_
  intro cs B w h hB
  have IH : NoEmptyIH B p.kids := fun j hj cs w h hB => ih j hj cs B w h hB
  obtain ⟨A, cap, rfl, hlen, hk⟩ := h.open
  by_cases h9 : p.kind = 9
  · rw [h9]
    exact emptyKeys_9 _ _ _ p A cap B w IH hB h9 hk hlen
  · exact emptyKeys_o _ (by simp [h9]) _ _ _ p A cap B w IH hB rfl hk hlen
end Go.Proofs.YtbgckolcimlofaaGreatDoor
