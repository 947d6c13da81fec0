/-
  packFits says whether a value may be written; under the value predicate.
-/
import Derived.Test.YtbgckolcimlofaaGreatDoorProg
import Derived.Test.YtbgckolcimlofaaGreatDoorT01
import Derived.Deep.QuietTactic
import Derived.BigQuiet
import Derived.Deep.LoopGhost
import Derived.Deep.DeepCutAuto
import Derived.Handy
import Derived.StillTailTactics
set_option linter.unusedVariables false
set_option linter.unusedSimpArgs false
namespace Go.Proofs.YtbgckolcimlofaaGreatDoor
open Go.RowKit YtbgckolcimlofaaGreatDoorPj

/-- What 'packFits' leaves. -/
def FitPost (p : P) (n : Nat) (w : World) (e : Ending) (w' : World) : Prop :=
  ∃ b, e = .returned (.bool b) ∧ Only (fun _ => False) w w' ∧ (b = true → Fit n p)

def FitIH (B : Nat) (ks : List P) : Prop :=
  ∀ (j : Nat) (hj : j < ks.length) (cs : List Value) (w : World) (l : Int), IsPack w B ks[j] cs → B ≤ w.heap.size → l ≤ 6 →
    Calls Tryz.prog 16 #[.agg cs.toArray, .int .i64 l] w (FitPost ks[j] l.toNat w)

theorem fit_mk {p : P} {l : Int} (hl : 0 < l) (h1 : PNode p) (h2 : ∀ (j : Nat) (hj : j < p.kids.length), Fit (l - 1).toNat p.kids[j]) : Fit l.toNat p := by
  have e : l.toNat = (l - 1).toNat + 1 := by omega
  rw [e]
  exact ⟨h1, h2⟩
set_option maxRecDepth 100000 in
set_option maxHeartbeats 4000000 in
theorem packFits_0 (k n : Int) (t : ByteArray) (e : Int) (ks : List P) (cs : List Value) (B : Nat) (w : World) (l : Int) (ih : FitIH B ks) (h : IsPack w B (.mk k n t e ks) cs) (hB : B ≤ w.heap.size) (hl : l ≤ 6) (hk3 : k = 0) :
    Calls Tryz.prog 16 #[.agg cs.toArray, .int .i64 l] w (FitPost (.mk k n t e ks) l.toNat w) := by
  have IH := hid ih
  obtain ⟨A, cap, rfl, hlen, hk⟩ := h.open
  have HK := hid hk
  clear hk h ih
  dsimp only [P.kind, P.num, P.text, P.ext, P.kids] at *
  generalize hL : ks.length = L at hlen ⊢
  have HL := hid hL
  subst hk3
  clear hL
  go_enter Tryz.func16, Tryz.ntmps16
  go_wp2
  all_goals first | (go_ret; exact ⟨false, rfl, by simp, by simp⟩) | skip
  all_goals
    go_loopg [145] L (fun m v wr => ∃ j : Nat, j + m = L ∧ v = .int .i64 (j : Nat) ∧ Only (fun _ => False) w wr ∧ Hid (∀ (i : Nat) (hi : i < ks.length), i < j → Fit (l - 1).toNat ks[i]))
    case atStart => exact ⟨0, by omega, rfl, by simp, hid fun i _ h => by omega⟩
    case round =>
      obtain ⟨j, hj, rfl, ho, hfit⟩ := hrel
      by_cases hlt : j < L
      · exfalso; omega
      · go_wp2
        go_ret
        refine ⟨true, rfl, ho, fun _ => fit_mk (by omega) ?_ fun i hi => hfit.out i hi (by have := HL.out; simp [P.kids] at hi; omega)⟩
        have e0 := HL.out
        constructor <;> simp only [P.kind, P.num, P.text, P.ext, P.kids] <;> first | omega | (simp; done) | (exact .inr (.inr (.inr (size_of_toList (by assumption))))) | (intro _; omega)
set_option maxRecDepth 100000 in
set_option maxHeartbeats 4000000 in
theorem packFits_1 (k n : Int) (t : ByteArray) (e : Int) (ks : List P) (cs : List Value) (B : Nat) (w : World) (l : Int) (ih : FitIH B ks) (h : IsPack w B (.mk k n t e ks) cs) (hB : B ≤ w.heap.size) (hl : l ≤ 6) (hk3 : k = 1) :
    Calls Tryz.prog 16 #[.agg cs.toArray, .int .i64 l] w (FitPost (.mk k n t e ks) l.toNat w) := by
  have IH := hid ih
  obtain ⟨A, cap, rfl, hlen, hk⟩ := h.open
  have HK := hid hk
  clear hk h ih
  dsimp only [P.kind, P.num, P.text, P.ext, P.kids] at *
  generalize hL : ks.length = L at hlen ⊢
  have HL := hid hL
  subst hk3
  clear hL
  go_enter Tryz.func16, Tryz.ntmps16
  go_wp2
  all_goals first | (go_ret; exact ⟨false, rfl, by simp, by simp⟩) | skip
  all_goals
    go_loopg [145] L (fun m v wr => ∃ j : Nat, j + m = L ∧ v = .int .i64 (j : Nat) ∧ Only (fun _ => False) w wr ∧ Hid (∀ (i : Nat) (hi : i < ks.length), i < j → Fit (l - 1).toNat ks[i]))
    case atStart => exact ⟨0, by omega, rfl, by simp, hid fun i _ h => by omega⟩
    case round =>
      obtain ⟨j, hj, rfl, ho, hfit⟩ := hrel
      by_cases hlt : j < L
      · exfalso; omega
      · go_wp2
        go_ret
        refine ⟨true, rfl, ho, fun _ => fit_mk (by omega) ?_ fun i hi => hfit.out i hi (by have := HL.out; simp [P.kids] at hi; omega)⟩
        have e0 := HL.out
        constructor <;> simp only [P.kind, P.num, P.text, P.ext, P.kids] <;> first | omega | (simp; done) | (exact .inr (.inr (.inr (size_of_toList (by assumption))))) | (intro _; omega)
set_option maxRecDepth 100000 in
set_option maxHeartbeats 4000000 in
theorem packFits_2 (k n : Int) (t : ByteArray) (e : Int) (ks : List P) (cs : List Value) (B : Nat) (w : World) (l : Int) (ih : FitIH B ks) (h : IsPack w B (.mk k n t e ks) cs) (hB : B ≤ w.heap.size) (hl : l ≤ 6) (hk3 : k = 2) :
    Calls Tryz.prog 16 #[.agg cs.toArray, .int .i64 l] w (FitPost (.mk k n t e ks) l.toNat w) := by
  have IH := hid ih
  obtain ⟨A, cap, rfl, hlen, hk⟩ := h.open
  have HK := hid hk
  clear hk h ih
  dsimp only [P.kind, P.num, P.text, P.ext, P.kids] at *
  generalize hL : ks.length = L at hlen ⊢
  have HL := hid hL
  subst hk3
  clear hL
  go_enter Tryz.func16, Tryz.ntmps16
  go_wp2
  all_goals first | (go_ret; exact ⟨false, rfl, by simp, by simp⟩) | skip
  all_goals
    go_loopg [145] L (fun m v wr => ∃ j : Nat, j + m = L ∧ v = .int .i64 (j : Nat) ∧ Only (fun _ => False) w wr ∧ Hid (∀ (i : Nat) (hi : i < ks.length), i < j → Fit (l - 1).toNat ks[i]))
    case atStart => exact ⟨0, by omega, rfl, by simp, hid fun i _ h => by omega⟩
    case round =>
      obtain ⟨j, hj, rfl, ho, hfit⟩ := hrel
      by_cases hlt : j < L
      · exfalso; omega
      · go_wp2
        go_ret
        refine ⟨true, rfl, ho, fun _ => fit_mk (by omega) ?_ fun i hi => hfit.out i hi (by have := HL.out; simp [P.kids] at hi; omega)⟩
        have e0 := HL.out
        constructor <;> simp only [P.kind, P.num, P.text, P.ext, P.kids] <;> first | omega | (simp; done) | (exact .inr (.inr (.inr (size_of_toList (by assumption))))) | (intro _; omega)
set_option maxRecDepth 100000 in
set_option maxHeartbeats 4000000 in
theorem packFits_3 (k n : Int) (t : ByteArray) (e : Int) (ks : List P) (cs : List Value) (B : Nat) (w : World) (l : Int) (ih : FitIH B ks) (h : IsPack w B (.mk k n t e ks) cs) (hB : B ≤ w.heap.size) (hl : l ≤ 6) (hk3 : k = 3) :
    Calls Tryz.prog 16 #[.agg cs.toArray, .int .i64 l] w (FitPost (.mk k n t e ks) l.toNat w) := by
  have IH := hid ih
  obtain ⟨A, cap, rfl, hlen, hk⟩ := h.open
  have HK := hid hk
  clear hk h ih
  dsimp only [P.kind, P.num, P.text, P.ext, P.kids] at *
  generalize hL : ks.length = L at hlen ⊢
  have HL := hid hL
  subst hk3
  clear hL
  go_enter Tryz.func16, Tryz.ntmps16
  go_wp2
  all_goals first | (go_ret; exact ⟨false, rfl, by simp, by simp⟩) | skip
  all_goals
    go_loopg [145] L (fun m v wr => ∃ j : Nat, j + m = L ∧ v = .int .i64 (j : Nat) ∧ Only (fun _ => False) w wr ∧ Hid (∀ (i : Nat) (hi : i < ks.length), i < j → Fit (l - 1).toNat ks[i]))
    case atStart => exact ⟨0, by omega, rfl, by simp, hid fun i _ h => by omega⟩
    case round =>
      obtain ⟨j, hj, rfl, ho, hfit⟩ := hrel
      by_cases hlt : j < L
      · exfalso; omega
      · go_wp2
        go_ret
        refine ⟨true, rfl, ho, fun _ => fit_mk (by omega) ?_ fun i hi => hfit.out i hi (by have := HL.out; simp [P.kids] at hi; omega)⟩
        have e0 := HL.out
        constructor <;> simp only [P.kind, P.num, P.text, P.ext, P.kids] <;> first | omega | (simp; done) | (exact .inr (.inr (.inr (size_of_toList (by assumption))))) | (intro _; omega)
set_option maxRecDepth 100000 in
set_option maxHeartbeats 4000000 in
theorem packFits_4 (k n : Int) (t : ByteArray) (e : Int) (ks : List P) (cs : List Value) (B : Nat) (w : World) (l : Int) (ih : FitIH B ks) (h : IsPack w B (.mk k n t e ks) cs) (hB : B ≤ w.heap.size) (hl : l ≤ 6) (hk3 : k = 4) :
    Calls Tryz.prog 16 #[.agg cs.toArray, .int .i64 l] w (FitPost (.mk k n t e ks) l.toNat w) := by
  have IH := hid ih
  obtain ⟨A, cap, rfl, hlen, hk⟩ := h.open
  have HK := hid hk
  clear hk h ih
  dsimp only [P.kind, P.num, P.text, P.ext, P.kids] at *
  generalize hL : ks.length = L at hlen ⊢
  have HL := hid hL
  subst hk3
  clear hL
  go_enter Tryz.func16, Tryz.ntmps16
  go_wp2
  all_goals first | (go_ret; exact ⟨false, rfl, by simp, by simp⟩) | skip
  all_goals
    go_loopg [145] L (fun m v wr => ∃ j : Nat, j + m = L ∧ v = .int .i64 (j : Nat) ∧ Only (fun _ => False) w wr ∧ Hid (∀ (i : Nat) (hi : i < ks.length), i < j → Fit (l - 1).toNat ks[i]))
    case atStart => exact ⟨0, by omega, rfl, by simp, hid fun i _ h => by omega⟩
    case round =>
      obtain ⟨j, hj, rfl, ho, hfit⟩ := hrel
      by_cases hlt : j < L
      · exfalso; omega
      · go_wp2
        go_ret
        refine ⟨true, rfl, ho, fun _ => fit_mk (by omega) ?_ fun i hi => hfit.out i hi (by have := HL.out; simp [P.kids] at hi; omega)⟩
        have e0 := HL.out
        constructor <;> simp only [P.kind, P.num, P.text, P.ext, P.kids] <;> first | omega | (simp; done) | (exact .inr (.inr (.inr (size_of_toList (by assumption))))) | (intro _; omega)
set_option maxRecDepth 100000 in
set_option maxHeartbeats 4000000 in
theorem packFits_5 (k n : Int) (t : ByteArray) (e : Int) (ks : List P) (cs : List Value) (B : Nat) (w : World) (l : Int) (ih : FitIH B ks) (h : IsPack w B (.mk k n t e ks) cs) (hB : B ≤ w.heap.size) (hl : l ≤ 6) (hk3 : k = 5) :
    Calls Tryz.prog 16 #[.agg cs.toArray, .int .i64 l] w (FitPost (.mk k n t e ks) l.toNat w) := by
  have IH := hid ih
  obtain ⟨A, cap, rfl, hlen, hk⟩ := h.open
  have HK := hid hk
  clear hk h ih
  dsimp only [P.kind, P.num, P.text, P.ext, P.kids] at *
  generalize hL : ks.length = L at hlen ⊢
  have HL := hid hL
  subst hk3
  clear hL
  go_enter Tryz.func16, Tryz.ntmps16
  go_wp2
  all_goals first | (go_ret; exact ⟨false, rfl, by simp, by simp⟩) | skip
  all_goals
    go_loopg [145] L (fun m v wr => ∃ j : Nat, j + m = L ∧ v = .int .i64 (j : Nat) ∧ Only (fun _ => False) w wr ∧ Hid (∀ (i : Nat) (hi : i < ks.length), i < j → Fit (l - 1).toNat ks[i]))
    case atStart => exact ⟨0, by omega, rfl, by simp, hid fun i _ h => by omega⟩
    case round =>
      obtain ⟨j, hj, rfl, ho, hfit⟩ := hrel
      by_cases hlt : j < L
      · exfalso; omega
      · go_wp2
        go_ret
        refine ⟨true, rfl, ho, fun _ => fit_mk (by omega) ?_ fun i hi => hfit.out i hi (by have := HL.out; simp [P.kids] at hi; omega)⟩
        have e0 := HL.out
        constructor <;> simp only [P.kind, P.num, P.text, P.ext, P.kids] <;> first | omega | (simp; done) | (exact .inr (.inr (.inr (size_of_toList (by assumption))))) | (intro _; omega)
set_option maxRecDepth 100000 in
set_option maxHeartbeats 4000000 in
theorem packFits_6 (k n : Int) (t : ByteArray) (e : Int) (ks : List P) (cs : List Value) (B : Nat) (w : World) (l : Int) (ih : FitIH B ks) (h : IsPack w B (.mk k n t e ks) cs) (hB : B ≤ w.heap.size) (hl : l ≤ 6) (hk3 : k = 6) :
    Calls Tryz.prog 16 #[.agg cs.toArray, .int .i64 l] w (FitPost (.mk k n t e ks) l.toNat w) := by
  have IH := hid ih
  obtain ⟨A, cap, rfl, hlen, hk⟩ := h.open
  have HK := hid hk
  clear hk h ih
  dsimp only [P.kind, P.num, P.text, P.ext, P.kids] at *
  generalize hL : ks.length = L at hlen ⊢
  have HL := hid hL
  subst hk3
  clear hL
  go_enter Tryz.func16, Tryz.ntmps16
  go_wp2
  all_goals first | (go_ret; exact ⟨false, rfl, by simp, by simp⟩) | skip
  all_goals
    go_loopg [145] L (fun m v wr => ∃ j : Nat, j + m = L ∧ v = .int .i64 (j : Nat) ∧ Only (fun _ => False) w wr ∧ Hid (∀ (i : Nat) (hi : i < ks.length), i < j → Fit (l - 1).toNat ks[i]))
    case atStart => exact ⟨0, by omega, rfl, by simp, hid fun i _ h => by omega⟩
    case round =>
      obtain ⟨j, hj, rfl, ho, hfit⟩ := hrel
      by_cases hlt : j < L
      · exfalso; omega
      · go_wp2
        go_ret
        refine ⟨true, rfl, ho, fun _ => fit_mk (by omega) ?_ fun i hi => hfit.out i hi (by have := HL.out; simp [P.kids] at hi; omega)⟩
        have e0 := HL.out
        constructor <;> simp only [P.kind, P.num, P.text, P.ext, P.kids] <;> first | omega | (simp; done) | (exact .inr (.inr (.inr (size_of_toList (by assumption))))) | (intro _; omega)
set_option maxRecDepth 100000 in
set_option maxHeartbeats 4000000 in
theorem packFits_7 (k n : Int) (t : ByteArray) (e : Int) (ks : List P) (cs : List Value) (B : Nat) (w : World) (l : Int) (ih : FitIH B ks) (h : IsPack w B (.mk k n t e ks) cs) (hB : B ≤ w.heap.size) (hl : l ≤ 6) (hk3 : k = 7) :
    Calls Tryz.prog 16 #[.agg cs.toArray, .int .i64 l] w (FitPost (.mk k n t e ks) l.toNat w) := by
  have IH := hid ih
  obtain ⟨A, cap, rfl, hlen, hk⟩ := h.open
  have HK := hid hk
  clear hk h ih
  dsimp only [P.kind, P.num, P.text, P.ext, P.kids] at *
  generalize hL : ks.length = L at hlen ⊢
  have HL := hid hL
  subst hk3
  clear hL
  go_enter Tryz.func16, Tryz.ntmps16
  go_wp2
  all_goals first | (go_ret; exact ⟨false, rfl, by simp, by simp⟩) | skip
  all_goals
    go_loopg [145] L (fun m v wr => ∃ j : Nat, j + m = L ∧ v = .int .i64 (j : Nat) ∧ Only (fun _ => False) w wr ∧ Hid (∀ (i : Nat) (hi : i < ks.length), i < j → Fit (l - 1).toNat ks[i]))
    case atStart => exact ⟨0, by omega, rfl, by simp, hid fun i _ h => by omega⟩
    case round =>
      obtain ⟨j, hj, rfl, ho, hfit⟩ := hrel
      by_cases hlt : j < L
      · exfalso; omega
      · go_wp2
        go_ret
        refine ⟨true, rfl, ho, fun _ => fit_mk (by omega) ?_ fun i hi => hfit.out i hi (by have := HL.out; simp [P.kids] at hi; omega)⟩
        have e0 := HL.out
        constructor <;> simp only [P.kind, P.num, P.text, P.ext, P.kids] <;> first | omega | (simp; done) | (exact .inr (.inr (.inr (size_of_toList (by assumption))))) | (intro _; omega)
set_option maxRecDepth 100000 in
set_option maxHeartbeats 4000000 in
theorem packFits_8 (k n : Int) (t : ByteArray) (e : Int) (ks : List P) (cs : List Value) (B : Nat) (w : World) (l : Int) (ih : FitIH B ks) (h : IsPack w B (.mk k n t e ks) cs) (hB : B ≤ w.heap.size) (hl : l ≤ 6) (hk3 : k = 8) :
    Calls Tryz.prog 16 #[.agg cs.toArray, .int .i64 l] w (FitPost (.mk k n t e ks) l.toNat w) := by
  have IH := hid ih
  obtain ⟨A, cap, rfl, hlen, hk⟩ := h.open
  have HK := hid hk
  clear hk h ih
  dsimp only [P.kind, P.num, P.text, P.ext, P.kids] at *
  generalize hL : ks.length = L at hlen ⊢
  have HL := hid hL
  subst hk3
  clear hL
  go_enter Tryz.func16, Tryz.ntmps16
  go_wp2
  all_goals first | (go_ret; exact ⟨false, rfl, by simp, by simp⟩) | skip
  all_goals
    go_loopg [145] L (fun m v wr => ∃ j : Nat, j + m = L ∧ v = .int .i64 (j : Nat) ∧ Only (fun _ => False) w wr ∧ Hid (∀ (i : Nat) (hi : i < ks.length), i < j → Fit (l - 1).toNat ks[i]))
    case atStart => exact ⟨0, by omega, rfl, by simp, hid fun i _ h => by omega⟩
    case round =>
      obtain ⟨j, hj, rfl, ho, hfit⟩ := hrel
      by_cases hlt : j < L
      · have hlt' : j < ks.length := by have := HL.out; omega
        have hs := ho.size
        obtain ⟨b, off, A', cap', rfl, hb, d0, d1, d2, d3, d4, hp⟩ := (HK.out.only ho hB (fun _ _ h => h)) j hlt'
        have hp' := hid hp
        clear hp
        go_wp2_with (go_at_call 16; refine (IH.out j hlt' _ _ (l - 1) (hp'.out.only (show Only (fun _ => False) wr _ by simp) (by omega) (fun _ _ h => h)) (by simp; omega) (by omega)).mono ?_; rintro e w1 ⟨b', rfl, h1, h2⟩; have H1 := hid h1; have H2 := hid h2; clear h1 h2; cases b')
        · go_ret
          exact ⟨false, rfl, ((ho.alloc _).trans H1.out), by simp⟩
        · go_roundg (gk - 1)
          case measure => omega
          case rel =>
            refine ⟨j + 1, by omega, by go_num, (ho.alloc _).trans H1.out, hid fun i hi hij => ?_⟩
            by_cases e1 : i = j
            · subst e1; exact H2.out (by trivial)
            · exact hfit.out i hi (by omega)
      · go_wp2
        go_ret
        refine ⟨true, rfl, ho, fun _ => fit_mk (by omega) ?_ fun i hi => hfit.out i hi (by have := HL.out; simp [P.kids] at hi; omega)⟩
        have e0 := HL.out
        constructor <;> simp only [P.kind, P.num, P.text, P.ext, P.kids] <;> first | omega | (simp; done) | (exact .inr (.inr (.inr (size_of_toList (by assumption))))) | (intro _; omega)
set_option maxRecDepth 100000 in
set_option maxHeartbeats 4000000 in
theorem packFits_9o (k n : Int) (t : ByteArray) (e : Int) (ks : List P) (cs : List Value) (B : Nat) (w : World) (l : Int) (ih : FitIH B ks) (h : IsPack w B (.mk k n t e ks) cs) (hB : B ≤ w.heap.size) (hl : l ≤ 6) (hk3 : k = 9) (h2 : (((ks.length : Nat) : Int) % 2 == 1) = true) :
    Calls Tryz.prog 16 #[.agg cs.toArray, .int .i64 l] w (FitPost (.mk k n t e ks) l.toNat w) := by
  have IH := hid ih
  obtain ⟨A, cap, rfl, hlen, hk⟩ := h.open
  have HK := hid hk
  clear hk h ih
  dsimp only [P.kind, P.num, P.text, P.ext, P.kids] at *
  generalize hL : ks.length = L at hlen h2 ⊢
  have HL := hid hL
  subst hk3
  clear hL
  go_enter Tryz.func16, Tryz.ntmps16
  go_wp2
  all_goals first | (go_ret; exact ⟨false, rfl, by simp, by simp⟩) | skip

set_option maxRecDepth 100000 in
set_option maxHeartbeats 4000000 in
theorem packFits_9e (k n : Int) (t : ByteArray) (e : Int) (ks : List P) (cs : List Value) (B : Nat) (w : World) (l : Int) (ih : FitIH B ks) (h : IsPack w B (.mk k n t e ks) cs) (hB : B ≤ w.heap.size) (hl : l ≤ 6) (hk3 : k = 9) (h2 : (((ks.length : Nat) : Int) % 2 == 1) = false) :
    Calls Tryz.prog 16 #[.agg cs.toArray, .int .i64 l] w (FitPost (.mk k n t e ks) l.toNat w) := by
  have IH := hid ih
  obtain ⟨A, cap, rfl, hlen, hk⟩ := h.open
  have HK := hid hk
  clear hk h ih
  dsimp only [P.kind, P.num, P.text, P.ext, P.kids] at *
  generalize hL : ks.length = L at hlen h2 ⊢
  have HL := hid hL
  subst hk3
  clear hL
  go_enter Tryz.func16, Tryz.ntmps16
  go_wp2
  all_goals first | (go_ret; exact ⟨false, rfl, by simp, by simp⟩) | skip
  all_goals
    go_loopg [145] L (fun m v wr => ∃ j : Nat, j + m = L ∧ v = .int .i64 (j : Nat) ∧ Only (fun _ => False) w wr ∧ Hid (∀ (i : Nat) (hi : i < ks.length), i < j → Fit (l - 1).toNat ks[i]))
    case atStart => exact ⟨0, by omega, rfl, by simp, hid fun i _ h => by omega⟩
    case round =>
      obtain ⟨j, hj, rfl, ho, hfit⟩ := hrel
      by_cases hlt : j < L
      · have hlt' : j < ks.length := by have := HL.out; omega
        have hs := ho.size
        obtain ⟨b, off, A', cap', rfl, hb, d0, d1, d2, d3, d4, hp⟩ := (HK.out.only ho hB (fun _ _ h => h)) j hlt'
        have hp' := hid hp
        clear hp
        go_wp2_with (go_at_call 16; refine (IH.out j hlt' _ _ (l - 1) (hp'.out.only (show Only (fun _ => False) wr _ by simp) (by omega) (fun _ _ h => h)) (by simp; omega) (by omega)).mono ?_; rintro e w1 ⟨b', rfl, h1, h2⟩; have H1 := hid h1; have H2 := hid h2; clear h1 h2; cases b')
        · go_ret
          exact ⟨false, rfl, ((ho.alloc _).trans H1.out), by simp⟩
        · go_roundg (gk - 1)
          case measure => omega
          case rel =>
            refine ⟨j + 1, by omega, by go_num, (ho.alloc _).trans H1.out, hid fun i hi hij => ?_⟩
            by_cases e1 : i = j
            · subst e1; exact H2.out (by trivial)
            · exact hfit.out i hi (by omega)
      · go_wp2
        go_ret
        refine ⟨true, rfl, ho, fun _ => fit_mk (by omega) ?_ fun i hi => hfit.out i hi (by have := HL.out; simp [P.kids] at hi; omega)⟩
        have e0 := HL.out
        have h3 : L % 2 = 0 := by
          have := of_decide_eq_false h2
          omega
        constructor <;> simp only [P.kind, P.num, P.text, P.ext, P.kids] <;> first | omega | (simp; done) | (exact .inr (.inr (.inr (size_of_toList (by assumption))))) | (intro _; omega)
set_option maxRecDepth 100000 in
set_option maxHeartbeats 4000000 in
theorem packFits_10 (k n : Int) (t : ByteArray) (e : Int) (ks : List P) (cs : List Value) (B : Nat) (w : World) (l : Int) (ih : FitIH B ks) (h : IsPack w B (.mk k n t e ks) cs) (hB : B ≤ w.heap.size) (hl : l ≤ 6) (hk3 : k = 10) :
    Calls Tryz.prog 16 #[.agg cs.toArray, .int .i64 l] w (FitPost (.mk k n t e ks) l.toNat w) := by
  have IH := hid ih
  obtain ⟨A, cap, rfl, hlen, hk⟩ := h.open
  have HK := hid hk
  clear hk h ih
  dsimp only [P.kind, P.num, P.text, P.ext, P.kids] at *
  generalize hL : ks.length = L at hlen ⊢
  have HL := hid hL
  subst hk3
  clear hL
  go_enter Tryz.func16, Tryz.ntmps16
  go_wp2
  all_goals first | (go_ret; exact ⟨false, rfl, by simp, by simp⟩) | skip
  all_goals
    go_loopg [145] L (fun m v wr => ∃ j : Nat, j + m = L ∧ v = .int .i64 (j : Nat) ∧ Only (fun _ => False) w wr ∧ Hid (∀ (i : Nat) (hi : i < ks.length), i < j → Fit (l - 1).toNat ks[i]))
    case atStart => exact ⟨0, by omega, rfl, by simp, hid fun i _ h => by omega⟩
    case round =>
      obtain ⟨j, hj, rfl, ho, hfit⟩ := hrel
      by_cases hlt : j < L
      · exfalso; omega
      · go_wp2
        go_ret
        refine ⟨true, rfl, ho, fun _ => fit_mk (by omega) ?_ fun i hi => hfit.out i hi (by have := HL.out; simp [P.kids] at hi; omega)⟩
        have e0 := HL.out
        constructor <;> simp only [P.kind, P.num, P.text, P.ext, P.kids] <;> first | omega | (simp; done) | (exact .inr (.inr (.inr (size_of_toList (by assumption))))) | (intro _; omega)
set_option maxRecDepth 100000 in
set_option maxHeartbeats 4000000 in
theorem packFits_lo (k n : Int) (t : ByteArray) (e : Int) (ks : List P) (cs : List Value) (B : Nat) (w : World) (l : Int) (ih : FitIH B ks) (h : IsPack w B (.mk k n t e ks) cs) (hB : B ≤ w.heap.size) (hl : l ≤ 6) (hk3 : k < 0) :
    Calls Tryz.prog 16 #[.agg cs.toArray, .int .i64 l] w (FitPost (.mk k n t e ks) l.toNat w) := by
  have IH := hid ih
  obtain ⟨A, cap, rfl, hlen, hk⟩ := h.open
  have HK := hid hk
  clear hk h ih
  dsimp only [P.kind, P.num, P.text, P.ext, P.kids] at *
  generalize hL : ks.length = L at hlen ⊢
  have HL := hid hL
  clear hL
  go_enter Tryz.func16, Tryz.ntmps16
  go_wp2
  all_goals first | (go_ret; exact ⟨false, rfl, by simp, by simp⟩) | skip

set_option maxRecDepth 100000 in
set_option maxHeartbeats 4000000 in
theorem packFits_hi (k n : Int) (t : ByteArray) (e : Int) (ks : List P) (cs : List Value) (B : Nat) (w : World) (l : Int) (ih : FitIH B ks) (h : IsPack w B (.mk k n t e ks) cs) (hB : B ≤ w.heap.size) (hl : l ≤ 6) (hk3 : 11 ≤ k) :
    Calls Tryz.prog 16 #[.agg cs.toArray, .int .i64 l] w (FitPost (.mk k n t e ks) l.toNat w) := by
  have IH := hid ih
  obtain ⟨A, cap, rfl, hlen, hk⟩ := h.open
  have HK := hid hk
  clear hk h ih
  dsimp only [P.kind, P.num, P.text, P.ext, P.kids] at *
  generalize hL : ks.length = L at hlen ⊢
  have HL := hid hL
  clear hL
  go_enter Tryz.func16, Tryz.ntmps16
  go_wp2
  all_goals first | (go_ret; exact ⟨false, rfl, by simp, by simp⟩) | skip

theorem packFits (p : P) : ∀ (cs : List Value) (B : Nat) (w : World) (l : Int) (_ : IsPack w B p cs) (_ : B ≤ w.heap.size) (_ : l ≤ 6),
    Calls Tryz.prog 16 #[.agg cs.toArray, .int .i64 l] w (FitPost p l.toNat w) := by
  induction p using P.ind with | h p ih => ?_
  intro cs B w l h hB hl
  have IH : FitIH B p.kids := fun j hj cs w l h hB hl => ih j hj cs B w l h hB hl
  clear ih
  obtain ⟨k, n, t, e, ks⟩ := p
  have hk : k < 0 ∨ 11 ≤ k ∨ k = 0 ∨ k = 1 ∨ k = 2 ∨ k = 3 ∨ k = 4 ∨ k = 5 ∨ k = 6 ∨ k = 7 ∨ k = 8 ∨ k = 9 ∨ k = 10 := by omega
  rcases hk with h1 | h1 | h1 | h1 | h1 | h1 | h1 | h1 | h1 | h1 | h1 | h1 | h1
  · exact packFits_lo k n t e ks cs B w l IH h hB hl h1
  · exact packFits_hi k n t e ks cs B w l IH h hB hl h1
  · exact packFits_0 k n t e ks cs B w l IH h hB hl h1
  · exact packFits_1 k n t e ks cs B w l IH h hB hl h1
  · exact packFits_2 k n t e ks cs B w l IH h hB hl h1
  · exact packFits_3 k n t e ks cs B w l IH h hB hl h1
  · exact packFits_4 k n t e ks cs B w l IH h hB hl h1
  · exact packFits_5 k n t e ks cs B w l IH h hB hl h1
  · exact packFits_6 k n t e ks cs B w l IH h hB hl h1
  · exact packFits_7 k n t e ks cs B w l IH h hB hl h1
  · exact packFits_8 k n t e ks cs B w l IH h hB hl h1
  · cases h2 : (((ks.length : Nat) : Int) % 2 == 1)
    · exact packFits_9e k n t e ks cs B w l IH h hB hl h1 h2
    · exact packFits_9o k n t e ks cs B w l IH h hB hl h1 h2
  · exact packFits_10 k n t e ks cs B w l IH h hB hl h1
end Go.Proofs.YtbgckolcimlofaaGreatDoor
