/-
  readFull of no bytes; no conditions.
-/
import Derived.Test.YtbgckolcimlofaaGreatDoorProg
import Derived.Test.YtbgckolcimlofaaGreatDoorT35
import Derived.Test.YtbgckolcimlofaaGreatDoorT31
set_option linter.unusedVariables false
set_option linter.unusedSimpArgs false
namespace Go.Proofs.YtbgckolcimlofaaGreatDoor
open Go.RowKit YtbgckolcimlofaaGreatDoorPj

set_option maxRecDepth 100000 in
set_option maxHeartbeats 4000000 in
theorem readFull_0 (w : World) (F : Nat → Prop) (s : Nat) (all : List UInt8) (h : Rd w F s all) :
    Calls Tryz.prog 100 #[.pointer (some ⟨s, 0, none⟩), .slice none 0 0] w (fun e w' => e = .returned (.tuple #[.int .i64 0, .nilIface]) ∧ ∃ F', Newer F F' w ∧ Rd w' F' s all ∧ Only F w w') := by
  have HM := hid (h.call 0 (by simp))
  clear h
  go_enter Tryz.func100, Tryz.ntmps100
  go_wp2_with (go_at_call 63; refine HM.out.mono ?_; rintro e w1 hm; obtain ⟨rfl, F', A, nb, cap1, atq, buf', rest', HS, HALL, HB, h1, h2, h3, h4, c1, c2, f2, HN, HO, hsl⟩ := hm.get; clear hm)
  have hb1 : (0 : Int) ≤ atq := by omega
  have hb2 : (atq : Int) ≤ nb := by omega
  have hb3 : (nb : Int) ≤ cap1 := by omega
  have hb4 : atq ≤ 1099511627776 := by omega
  have HB2 : Hid (0 + atq ≤ nb) := hid h1
  by_cases hca : cap1 = atq
  all_goals
    have HCA := hid hca
    go_wp2_with fail
    go_region_held3 (fun w' => w'.cell? ⟨s, 1, none⟩ = some (.slice A nb cap1) ∧ w'.cell? ⟨s, 2, none⟩ = some (.int .i64 (atq : Nat))) (go_keep)
      (first
        | (refine step_copy_gen rfl _ _ rfl _ _ _ _ _ _ rfl rfl [] (by simp) (fun h => absurd h (by simp)) ?_; intro w2 h5; have H6 : Hid (Only (fun _ => False) w1 w2) := hid (((Only.refl (fun _ => False) w1).drew).trans (h5.only fun b off e h => absurd h (by simp))); have k1 := (H6.out.cell (o := 1) hsl (fun h => h)).trans c1; have k2 := (H6.out.cell (o := 2) hsl (fun h => h)).trans c2; have kf := (H6.out.frozen (o := 2) hsl (fun h => h)).trans f2; clear h5))
    go_wp2
    go_ret2
    have hs2 : Src w2 F' s (.slice A nb cap1) atq buf' rest' := HS.out.only H6.out fun k hk e => e
    have hav := Src.adv (n := 0) (z := (atq : Int)) hs2 (by have := HB.out; omega) (by omega)
    refine ⟨rfl, F', HN.out, ?_, ?_⟩
    · have := hav.1.rd_adv HALL.out HB.out (by omega)
      simpa using this
    · refine (HO.out.trans' H6.out fun i hi e => e.elim).trans' hav.2 fun i hi e => ?_
      rcases HN.out i e with e | e
      · exact e
      · omega
/-- What reading bytes leaves. -/
def BytesPost (F : Nat → Prop) (s : Nat) (A : Option Addr) (cap : Nat) (content r : List UInt8) (w : World) (v : Value) (w' : World) : Prop :=
  ∃ A' n' c' F', v = .slice A' n' c' ∧ Row w' 0 v content ∧ Rd w' F' s r ∧ Newer F F' w ∧ Only (fun k => F k ∨ (Value.slice A 0 cap).ownBlock = some k) w w' ∧ ∀ k, v.ownBlock = some k → ((Value.slice A 0 cap).ownBlock = some k ∨ w.heap.size ≤ k) ∧ ¬ F' k
theorem full_new {F : Nat → Prop} {s n cap : Nat} {A : Option Addr} {content r : List UInt8} {w w1 : World} (h : Went F s (content ++ r) w w1) (hn : content.length = n) (hn2 : n ≤ 131072) :
    Calls Tryz.prog 100 #[.pointer (some ⟨s, 0, none⟩), .slice (some ⟨w1.heap.size, 0, none⟩) n n] (w1.alloc (.cells (madeCells #[.int .u8 0] n) 5)) (fun e w' => e = .returned (.tuple #[.int .i64 (n : Nat), .nilIface]) ∧ BytesPost F s A cap content r w (.slice (some ⟨w1.heap.size, 0, none⟩) n n) w') := by
  obtain ⟨F1, h1, h2, h3⟩ := h
  have ha : Only (fun _ => False) w1 (w1.alloc (.cells (madeCells #[.int .u8 0] n) 5)) := by simp
  have hg : (w1.alloc (.cells (madeCells #[.int .u8 0] n) 5)).heap[w1.heap.size]? = some (.cells (List.toArray (List.replicate n (.int .u8 0))) 5 (0, 0)) := by
    show (w1.heap.push _)[w1.heap.size]? = _
    rw [← madeCells_u8]
    simp
  have hgF : ¬ F1 w1.heap.size := fun e => by have := h1.lt _ e; omega
  refine (readFull _ F1 s n w1.heap.size n _ (content ++ r) (h1.only ha fun _ _ e => e) (by rw [List.length_append]; omega) hg (by simp) hgF (Nat.le_refl _) (by unfold maxLen; omega)).mono ?_
  rintro e w' ⟨rfl, F', k1, k2, k3, k4⟩
  have hs3 := h3.size
  subst hn
  rw [List.drop_left] at k2
  rw [List.take_left] at k3
  refine ⟨rfl, _, _, _, F', rfl, k3, k2, fun k hk => ?_, (h3.mono fun k _ e => Or.inl e).trans' ((ha.mono (T := fun k => F1 k ∨ k = w1.heap.size) fun _ _ e => e.elim).trans k4) fun i hi e => ?_, fun k hk => ?_⟩
  · rcases k1 k hk with e | e
    · exact h2 k e
    · right; simp at e; omega
  · rcases e with e | e
    · rcases h2 i e with e | e
      · exact Or.inl e
      · omega
    · omega
  · have e : w1.heap.size = k := by injection hk
    subst e
    refine ⟨Or.inr (by omega), fun hk => ?_⟩
    rcases k1 _ hk with e | e
    · exact hgF e
    · simp at e; omega
theorem full_old {F : Nat → Prop} {s n cap g : Nat} {content r : List UInt8} {w w1 : World} (h : Went F s (content ++ r) w w1) (hn : content.length = n) (hn2 : n ≤ 131072) (hr : Row w 0 (.slice (some ⟨g, 0, none⟩) 0 cap) []) (hgF : ¬ F g) (hnc : n ≤ cap) :
    Calls Tryz.prog 100 #[.pointer (some ⟨s, 0, none⟩), .slice (some ⟨g, 0, none⟩) n cap] w1 (fun e w' => e = .returned (.tuple #[.int .i64 (n : Nat), .nilIface]) ∧ BytesPost F s (some ⟨g, 0, none⟩) cap content r w (.slice (some ⟨g, 0, none⟩) n cap) w') := by
  obtain ⟨F1, h1, h2, h3⟩ := h
  have hs3 := h3.size
  rcases hr.2 with ⟨e, _⟩ | ⟨g', cap', cur, e, _, hg, _, hm, hs, _⟩
  · injection e with e; cases e
  · injection e with e1 e2 e3
    injection e1 with e1
    injection e1 with e1
    subst e1 e3
    have hgw := (Array.getElem?_eq_some_iff.1 hg).1
    have hgF1 : ¬ F1 g := fun e => by
      rcases h2 g e with e | e
      · exact hgF e
      · omega
    refine (readFull w1 F1 s n g cap cur.toList (content ++ r) h1 (by rw [List.length_append]; omega) ((h3.block g hgw hgF).trans (by simpa using hg)) (by simpa using hs) hgF1 hnc hm).mono ?_
    rintro e w' ⟨rfl, F', k1, k2, k3, k4⟩
    subst hn
    rw [List.drop_left] at k2
    rw [List.take_left] at k3
    refine ⟨rfl, _, _, _, F', rfl, k3, k2, fun k hk => ?_, (h3.mono fun k _ e => Or.inl e).trans' k4 fun i hi e => ?_, fun k hk => ?_⟩
    · rcases k1 k hk with e | e
      · exact h2 k e
      · right; omega
    · rcases e with e | e
      · rcases h2 i e with e | e
        · exact Or.inl e
        · omega
      · right
        subst e
        rfl
    · have e : g = k := by injection hk
      subst e
      refine ⟨Or.inl rfl, fun hk => ?_⟩
      rcases k1 _ hk with e | e
      · exact hgF1 e
      · omega
theorem full_nil {F : Nat → Prop} {s : Nat} {content r : List UInt8} {w w1 : World} (h : Went F s (content ++ r) w w1) (hn : content.length = 0) :
    Calls Tryz.prog 100 #[.pointer (some ⟨s, 0, none⟩), .slice none 0 0] w1 (fun e w' => e = .returned (.tuple #[.int .i64 ((0 : Nat) : Int), .nilIface]) ∧ BytesPost F s none 0 content r w (.slice none 0 0) w') := by
  obtain ⟨F1, h1, h2, h3⟩ := h
  have hs3 := h3.size
  have hc : content = [] := List.eq_nil_of_length_eq_zero hn
  subst hc
  refine (readFull_0 w1 F1 s _ h1).mono ?_
  rintro e w' ⟨rfl, F', k1, k2, k4⟩
  refine ⟨rfl, _, _, _, F', rfl, Row.nil _ _, k2, fun k hk => ?_, (h3.mono fun k _ e => Or.inl e).trans' k4 fun i hi e => ?_, fun k hk => (nomatch hk)⟩
  · rcases k1 k hk with e | e
    · exact h2 k e
    · right; omega
  · rcases h2 i e with e | e
    · exact Or.inl e
    · omega
end Go.Proofs.YtbgckolcimlofaaGreatDoor
