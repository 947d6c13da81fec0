/-
  headed, sizes and putHead: the header of a value; for every number of items below 2^32.
-/
import Derived.Test.YtbgckolcimlofaaGreatDoorProg
import Derived.Test.YtbgckolcimlofaaGreatDoorT13
import Derived.Deep.QuietTactic
import Derived.BigQuiet
import Derived.Deep.LoopGhost
import Derived.Deep.DeepCutAuto
import Derived.Handy
import Derived.StillTailTactics
import Derived.Deep.RegionHeld3
set_option linter.unusedVariables false
set_option linter.unusedSimpArgs false
namespace Go.Proofs.YtbgckolcimlofaaGreatDoor
open Go.RowKit YtbgckolcimlofaaGreatDoorPj

theorem row_one_lit (w : World) (B n : Nat) (z : Int) (hB : B ≤ w.heap.size) (h : z = ((UInt8.ofNat n).toNat : Int)) : Row (w.alloc (.cells #[.int .u8 z] 5)) B (.slice (some ⟨w.heap.size, 0, none⟩) 1 1) [UInt8.ofNat n] := by
  subst h
  exact Row.one w B _ hB
/-- The list 1, 2, 4, 8. -/
structure L4 (w : World) (b : Nat) : Prop where
  c0 : w.cell? ⟨b, 0, none⟩ = some (.int .i64 1)
  c1 : w.cell? ⟨b, 1, none⟩ = some (.int .i64 2)
  c2 : w.cell? ⟨b, 2, none⟩ = some (.int .i64 4)
  c3 : w.cell? ⟨b, 3, none⟩ = some (.int .i64 8)
theorem L4.lt {w : World} {b : Nat} (h : L4 w b) : b < w.heap.size := World.block_lt_of_cell? w _ h.c0
theorem L4.only {w w' : World} {b : Nat} {S : Nat → Prop} (h : L4 w b) (ho : Only S w w') (hS : ¬ S b) : L4 w' b :=
  ⟨(ho.cell h.lt hS).trans h.c0, (ho.cell h.lt hS).trans h.c1, (ho.cell h.lt hS).trans h.c2, (ho.cell h.lt hS).trans h.c3⟩
theorem L4.new (w : World) (t : TypeId) : L4 (w.alloc (.cells #[.int .i64 1, .int .i64 2, .int .i64 4, .int .i64 8] t)) w.heap.size := by
  constructor <;> go_simp

theorem int_formINeg {u : Nat} (i s : Nat) (h : (i, s) ∈ [(0, 1), (1, 2), (2, 4), (3, 8)]) (hu : 18446744073709551616 - 2 ^ (8 * s - 1) ≤ u) : INeg u (UInt8.ofNat (208 + i) :: be s u) := Or.inr ⟨i, s, h, hu, rfl⟩
set_option maxRecDepth 100000 in
set_option maxHeartbeats 4000000 in
theorem putInt_neg (f u : Nat) (w : World) (hff : FormsAt w f) (hu : u < 18446744073709551616) (hu0 : 9223372036854775808 ≤ u) :
    Calls Tryz.prog 19 #[.pointer (some ⟨f, 0, none⟩), .int .u64 (u : Nat), .bool true] w (IntPost f (INeg u) w) := by
  have HFF := hid hff
  clear hff
  have hw : wrap64 (u : Int) = (u : Int) - 18446744073709551616 := by unfold wrap64; omega
  have HW := hid hw
  have hw1 : wrap64 (u : Int) < 0 := by omega
  have hw2 : -9223372036854775808 ≤ wrap64 (u : Int) := by omega
  clear hw
  go_enter Tryz.func19, Tryz.ntmps19
  go_wp2_with (first
    | (at_builtin; refine irow_push rfl _ _ rfl (B := w.heap.size) (I := INeg u) (n := 0) (.slice none 0 0) rfl (IRow.nil _ _ _) _ rfl (by simp) rfl [UInt8.ofNat u] (row_one_lit _ _ u _ (Nat.le_refl _) (by rw [HW.out]; simp; omega)) (Or.inl ⟨by have := HW.out; omega, rfl⟩) (fun k _ e => nomatch e) (by simp) (by omega) ?_; intro v0 w0 i1 i2 i3; have J1 := hid i1; have J2 := hid i2; have J3 := hid i3; clear i1 i2 i3))
  · go_loopg [8, 33] 4 (fun m v8 v33 wr => ∃ (j n : Nat), j + m = 4 ∧ v33 = .int .i64 (j : Nat) ∧ n ≤ j + 1 ∧ (j = 4 → 0 < n) ∧ IRow wr w.heap.size (INeg u) v8 n ∧ Hid (Only (fun _ => False) w wr) ∧ (∀ k, v8.ownBlock = some k → k ≠ w0.heap.size) ∧ Hid (L4 wr w0.heap.size))
    case atStart =>
      exact ⟨0, 1, rfl, rfl, by omega, by omega, J1.out.only (Only.alloc (Only.refl (fun _ => False) _) _) (fun _ _ h => h), hid (((Only.alloc (Only.refl (fun _ => False) _) _).grown J2.out (fun _ e _ => nomatch e)).alloc _), fun k e => by have := (J1.out.block e).2; omega, hid (L4.new _ _)⟩
    case round =>
      obtain ⟨j, n, hj, rfl, hnj, hn4, hown, HO, hne, HL4⟩ := hrel
      have hbw : w.heap.size ≤ wr.heap.size := HO.out.size
      have hlb := HL4.out.lt
      rcases (show j = 0 ∨ j = 1 ∨ j = 2 ∨ j = 3 ∨ j = 4 by omega) with rfl | rfl | rfl | rfl | rfl
      · obtain ⟨c0, c1, c2, c3⟩ := HL4.out
        have hj3 : gk = 4 := by omega
        subst hj3
        clear hj
        go_wp2_with (first
          | (go_at_call 31; refine (big u 1 _ hu (by decide)).mono ?_; rintro e w1 ⟨v, rfl, h1, h2⟩; obtain ⟨g, cap, rfl, hg1, hg2, hg3⟩ := h1.ne (be_length 1 u) (by decide); have H2 := hid h2; have H3 := hid hg3; have hz1 := h2.size; have hz2 : wr.heap.size < w1.heap.size := (by simp at hz1; omega); clear h1 h2 hg3)
          | (at_builtin; refine row_append rfl _ _ rfl w.heap.size (.slice (some ⟨wr.heap.size, 0, none⟩) 1 1) [UInt8.ofNat (208 + 0)] rfl ((row_one_lit wr w.heap.size (208 + 0) _ hbw (by decide)).only H2.out (fun _ _ h => h)) _ _ _ (be 1 u) rfl (be_length _ _) H3.out (by simp [be_length]) (by omega) ?_; intro v2 w2 r1 r2 r3; obtain ⟨g2, cap2, rfl, -, -, -⟩ := r1.ne (n := 1 + 1) (by simp [be_length]) (by omega); have R1 := hid r1; have R2 := hid r2; have R3 := hid r3; have hz3 := r2.size; have HX : Hid (Only (fun _ => False) wr w2) := hid (((Only.alloc (Only.refl (fun _ => False) _) _).trans H2.out).grown r2 (fun k e hk => by have := own1 e; omega)); clear r1 r2 r3)
          | (at_builtin; refine irow_push rfl _ _ rfl u8 rfl (hown.only HX.out (fun _ _ h => h)) _ rfl rfl rfl (UInt8.ofNat (208 + 0) :: be 1 u) R1.out (int_formINeg 0 1 (by decide) (by have := HW.out; first | omega | (simp; omega))) (fun k e e2 => by have := (hown.block e2).2; have := own1 e; rcases R3.out with h | h; (have := own1 (k := wr.heap.size) h; omega); (have := own1 h; omega)) (by omega) (by omega) ?_; intro v3 w3 i1 i2 i3; have I1 := hid i1; have I2 := hid i2; have I3 := hid i3; have hz4 := i2.size; clear i1 i2 i3))
        all_goals go_roundg 3
        all_goals try (case measure => omega)
        all_goals
          first
            | (refine ⟨0 + 1, n + 1, by omega, by go_num, by omega, fun _ => by omega, I1.out, hid ((HO.out.trans HX.out).grown I2.out (fun k e hk => by have := (hown.block e).1; omega)), fun k e => ?_, hid ((HL4.out.only HX.out (fun h => h)).only (Only.of_grown I2.out) (fun e => hne _ e rfl))⟩
               rcases I3.out k e with h | h
               · exact hne k h
               · have := HL4.out.lt
                 omega)
            | exact ⟨0 + 1, n, by omega, by go_num, by omega, fun h => by first | omega | (exfalso; omega), hown, HO, hne, HL4⟩
      · obtain ⟨c0, c1, c2, c3⟩ := HL4.out
        have hj3 : gk = 3 := by omega
        subst hj3
        clear hj
        go_wp2_with (first
          | (go_at_call 31; refine (big u 2 _ hu (by decide)).mono ?_; rintro e w1 ⟨v, rfl, h1, h2⟩; obtain ⟨g, cap, rfl, hg1, hg2, hg3⟩ := h1.ne (be_length 2 u) (by decide); have H2 := hid h2; have H3 := hid hg3; have hz1 := h2.size; have hz2 : wr.heap.size < w1.heap.size := (by simp at hz1; omega); clear h1 h2 hg3)
          | (at_builtin; refine row_append rfl _ _ rfl w.heap.size (.slice (some ⟨wr.heap.size, 0, none⟩) 1 1) [UInt8.ofNat (208 + 1)] rfl ((row_one_lit wr w.heap.size (208 + 1) _ hbw (by decide)).only H2.out (fun _ _ h => h)) _ _ _ (be 2 u) rfl (be_length _ _) H3.out (by simp [be_length]) (by omega) ?_; intro v2 w2 r1 r2 r3; obtain ⟨g2, cap2, rfl, -, -, -⟩ := r1.ne (n := 2 + 1) (by simp [be_length]) (by omega); have R1 := hid r1; have R2 := hid r2; have R3 := hid r3; have hz3 := r2.size; have HX : Hid (Only (fun _ => False) wr w2) := hid (((Only.alloc (Only.refl (fun _ => False) _) _).trans H2.out).grown r2 (fun k e hk => by have := own1 e; omega)); clear r1 r2 r3)
          | (at_builtin; refine irow_push rfl _ _ rfl u8 rfl (hown.only HX.out (fun _ _ h => h)) _ rfl rfl rfl (UInt8.ofNat (208 + 1) :: be 2 u) R1.out (int_formINeg 1 2 (by decide) (by have := HW.out; first | omega | (simp; omega))) (fun k e e2 => by have := (hown.block e2).2; have := own1 e; rcases R3.out with h | h; (have := own1 (k := wr.heap.size) h; omega); (have := own1 h; omega)) (by omega) (by omega) ?_; intro v3 w3 i1 i2 i3; have I1 := hid i1; have I2 := hid i2; have I3 := hid i3; have hz4 := i2.size; clear i1 i2 i3))
        all_goals go_roundg 2
        all_goals try (case measure => omega)
        all_goals
          first
            | (refine ⟨1 + 1, n + 1, by omega, by go_num, by omega, fun _ => by omega, I1.out, hid ((HO.out.trans HX.out).grown I2.out (fun k e hk => by have := (hown.block e).1; omega)), fun k e => ?_, hid ((HL4.out.only HX.out (fun h => h)).only (Only.of_grown I2.out) (fun e => hne _ e rfl))⟩
               rcases I3.out k e with h | h
               · exact hne k h
               · have := HL4.out.lt
                 omega)
            | exact ⟨1 + 1, n, by omega, by go_num, by omega, fun h => by first | omega | (exfalso; omega), hown, HO, hne, HL4⟩
      · obtain ⟨c0, c1, c2, c3⟩ := HL4.out
        have hj3 : gk = 2 := by omega
        subst hj3
        clear hj
        go_wp2_with (first
          | (go_at_call 31; refine (big u 4 _ hu (by decide)).mono ?_; rintro e w1 ⟨v, rfl, h1, h2⟩; obtain ⟨g, cap, rfl, hg1, hg2, hg3⟩ := h1.ne (be_length 4 u) (by decide); have H2 := hid h2; have H3 := hid hg3; have hz1 := h2.size; have hz2 : wr.heap.size < w1.heap.size := (by simp at hz1; omega); clear h1 h2 hg3)
          | (at_builtin; refine row_append rfl _ _ rfl w.heap.size (.slice (some ⟨wr.heap.size, 0, none⟩) 1 1) [UInt8.ofNat (208 + 2)] rfl ((row_one_lit wr w.heap.size (208 + 2) _ hbw (by decide)).only H2.out (fun _ _ h => h)) _ _ _ (be 4 u) rfl (be_length _ _) H3.out (by simp [be_length]) (by omega) ?_; intro v2 w2 r1 r2 r3; obtain ⟨g2, cap2, rfl, -, -, -⟩ := r1.ne (n := 4 + 1) (by simp [be_length]) (by omega); have R1 := hid r1; have R2 := hid r2; have R3 := hid r3; have hz3 := r2.size; have HX : Hid (Only (fun _ => False) wr w2) := hid (((Only.alloc (Only.refl (fun _ => False) _) _).trans H2.out).grown r2 (fun k e hk => by have := own1 e; omega)); clear r1 r2 r3)
          | (at_builtin; refine irow_push rfl _ _ rfl u8 rfl (hown.only HX.out (fun _ _ h => h)) _ rfl rfl rfl (UInt8.ofNat (208 + 2) :: be 4 u) R1.out (int_formINeg 2 4 (by decide) (by have := HW.out; first | omega | (simp; omega))) (fun k e e2 => by have := (hown.block e2).2; have := own1 e; rcases R3.out with h | h; (have := own1 (k := wr.heap.size) h; omega); (have := own1 h; omega)) (by omega) (by omega) ?_; intro v3 w3 i1 i2 i3; have I1 := hid i1; have I2 := hid i2; have I3 := hid i3; have hz4 := i2.size; clear i1 i2 i3))
        all_goals go_roundg 1
        all_goals try (case measure => omega)
        all_goals
          first
            | (refine ⟨2 + 1, n + 1, by omega, by go_num, by omega, fun _ => by omega, I1.out, hid ((HO.out.trans HX.out).grown I2.out (fun k e hk => by have := (hown.block e).1; omega)), fun k e => ?_, hid ((HL4.out.only HX.out (fun h => h)).only (Only.of_grown I2.out) (fun e => hne _ e rfl))⟩
               rcases I3.out k e with h | h
               · exact hne k h
               · have := HL4.out.lt
                 omega)
            | exact ⟨2 + 1, n, by omega, by go_num, by omega, fun h => by first | omega | (exfalso; omega), hown, HO, hne, HL4⟩
      · obtain ⟨c0, c1, c2, c3⟩ := HL4.out
        have hj3 : gk = 1 := by omega
        subst hj3
        clear hj
        go_wp2_with (first
          | (go_at_call 31; refine (big u 8 _ hu (by decide)).mono ?_; rintro e w1 ⟨v, rfl, h1, h2⟩; obtain ⟨g, cap, rfl, hg1, hg2, hg3⟩ := h1.ne (be_length 8 u) (by decide); have H2 := hid h2; have H3 := hid hg3; have hz1 := h2.size; have hz2 : wr.heap.size < w1.heap.size := (by simp at hz1; omega); clear h1 h2 hg3)
          | (at_builtin; refine row_append rfl _ _ rfl w.heap.size (.slice (some ⟨wr.heap.size, 0, none⟩) 1 1) [UInt8.ofNat (208 + 3)] rfl ((row_one_lit wr w.heap.size (208 + 3) _ hbw (by decide)).only H2.out (fun _ _ h => h)) _ _ _ (be 8 u) rfl (be_length _ _) H3.out (by simp [be_length]) (by omega) ?_; intro v2 w2 r1 r2 r3; obtain ⟨g2, cap2, rfl, -, -, -⟩ := r1.ne (n := 8 + 1) (by simp [be_length]) (by omega); have R1 := hid r1; have R2 := hid r2; have R3 := hid r3; have hz3 := r2.size; have HX : Hid (Only (fun _ => False) wr w2) := hid (((Only.alloc (Only.refl (fun _ => False) _) _).trans H2.out).grown r2 (fun k e hk => by have := own1 e; omega)); clear r1 r2 r3)
          | (at_builtin; refine irow_push rfl _ _ rfl u8 rfl (hown.only HX.out (fun _ _ h => h)) _ rfl rfl rfl (UInt8.ofNat (208 + 3) :: be 8 u) R1.out (int_formINeg 3 8 (by decide) (by have := HW.out; first | omega | (simp; omega))) (fun k e e2 => by have := (hown.block e2).2; have := own1 e; rcases R3.out with h | h; (have := own1 (k := wr.heap.size) h; omega); (have := own1 h; omega)) (by omega) (by omega) ?_; intro v3 w3 i1 i2 i3; have I1 := hid i1; have I2 := hid i2; have I3 := hid i3; have hz4 := i2.size; clear i1 i2 i3))
        all_goals go_roundg 0
        all_goals try (case measure => omega)
        all_goals
          first
            | (refine ⟨3 + 1, n + 1, by omega, by go_num, by omega, fun _ => by omega, I1.out, hid ((HO.out.trans HX.out).grown I2.out (fun k e hk => by have := (hown.block e).1; omega)), fun k e => ?_, hid ((HL4.out.only HX.out (fun h => h)).only (Only.of_grown I2.out) (fun e => hne _ e rfl))⟩
               rcases I3.out k e with h | h
               · exact hne k h
               · have := HL4.out.lt
                 omega)
            | exact ⟨3 + 1, n, by omega, by go_num, by omega, fun h => by first | omega | (exfalso; omega), hown, HO, hne, HL4⟩
      · have hn0 : 0 < n := hn4 rfl
        obtain ⟨A, cap, rfl, hel⟩ := hown.open
        have HEL := hid hel
        have HR := hid hown
        clear hel hown
        have hfw := HFF.out.lt
        go_wp2_with (go_at_call 32; refine (pick f n _ (HFF.out.only HO.out (fun h => h)) hn0 (by omega)).mono ?_; rintro e w1 ⟨r, hr, rfl, h1, h2⟩; obtain ⟨g, x, bs, rfl, hc, hrow, hi, hg⟩ := HEL.out r hr; have d0 := (h1.cell (World.block_lt_of_cell? _ _ hc) (show ¬ g = f by omega)).trans hc; have H1 := hid h1; have H2 := hid h2; have HRow := hid (hrow.only h1 (fun k e hk => by have := (hrow.block e).1; have hk : k = f := hk; omega)); have HI := hid hi; clear h1 h2 hc hrow hi)
        go_ret
        exact ⟨_, _, rfl, HRow.out, HI.out, (HO.out.mono fun _ _ h => h.elim).trans H1.out, H2.out⟩
  · go_loopg [8, 33] 4 (fun m v8 v33 wr => ∃ (j n : Nat), j + m = 4 ∧ v33 = .int .i64 (j : Nat) ∧ n ≤ j + 1 ∧ (j = 4 → 0 < n) ∧ IRow wr w.heap.size (INeg u) v8 n ∧ Hid (Only (fun _ => False) w wr) ∧ (∀ k, v8.ownBlock = some k → k ≠ w.heap.size) ∧ Hid (L4 wr w.heap.size))
    case atStart =>
      exact ⟨0, 0, rfl, rfl, by omega, by omega, IRow.nil _ _ _, hid (Only.alloc (Only.refl (fun _ => False) _) _), fun k e => (nomatch e), hid (L4.new _ _)⟩
    case round =>
      obtain ⟨j, n, hj, rfl, hnj, hn4, hown, HO, hne, HL4⟩ := hrel
      have hbw : w.heap.size ≤ wr.heap.size := HO.out.size
      have hlb := HL4.out.lt
      rcases (show j = 0 ∨ j = 1 ∨ j = 2 ∨ j = 3 ∨ j = 4 by omega) with rfl | rfl | rfl | rfl | rfl
      · obtain ⟨c0, c1, c2, c3⟩ := HL4.out
        have hj3 : gk = 4 := by omega
        subst hj3
        clear hj
        go_wp2_with (first
          | (go_at_call 31; refine (big u 1 _ hu (by decide)).mono ?_; rintro e w1 ⟨v, rfl, h1, h2⟩; obtain ⟨g, cap, rfl, hg1, hg2, hg3⟩ := h1.ne (be_length 1 u) (by decide); have H2 := hid h2; have H3 := hid hg3; have hz1 := h2.size; have hz2 : wr.heap.size < w1.heap.size := (by simp at hz1; omega); clear h1 h2 hg3)
          | (at_builtin; refine row_append rfl _ _ rfl w.heap.size (.slice (some ⟨wr.heap.size, 0, none⟩) 1 1) [UInt8.ofNat (208 + 0)] rfl ((row_one_lit wr w.heap.size (208 + 0) _ hbw (by decide)).only H2.out (fun _ _ h => h)) _ _ _ (be 1 u) rfl (be_length _ _) H3.out (by simp [be_length]) (by omega) ?_; intro v2 w2 r1 r2 r3; obtain ⟨g2, cap2, rfl, -, -, -⟩ := r1.ne (n := 1 + 1) (by simp [be_length]) (by omega); have R1 := hid r1; have R2 := hid r2; have R3 := hid r3; have hz3 := r2.size; have HX : Hid (Only (fun _ => False) wr w2) := hid (((Only.alloc (Only.refl (fun _ => False) _) _).trans H2.out).grown r2 (fun k e hk => by have := own1 e; omega)); clear r1 r2 r3)
          | (at_builtin; refine irow_push rfl _ _ rfl u8 rfl (hown.only HX.out (fun _ _ h => h)) _ rfl rfl rfl (UInt8.ofNat (208 + 0) :: be 1 u) R1.out (int_formINeg 0 1 (by decide) (by have := HW.out; first | omega | (simp; omega))) (fun k e e2 => by have := (hown.block e2).2; have := own1 e; rcases R3.out with h | h; (have := own1 (k := wr.heap.size) h; omega); (have := own1 h; omega)) (by omega) (by omega) ?_; intro v3 w3 i1 i2 i3; have I1 := hid i1; have I2 := hid i2; have I3 := hid i3; have hz4 := i2.size; clear i1 i2 i3))
        all_goals go_roundg 3
        all_goals try (case measure => omega)
        all_goals
          first
            | (refine ⟨0 + 1, n + 1, by omega, by go_num, by omega, fun _ => by omega, I1.out, hid ((HO.out.trans HX.out).grown I2.out (fun k e hk => by have := (hown.block e).1; omega)), fun k e => ?_, hid ((HL4.out.only HX.out (fun h => h)).only (Only.of_grown I2.out) (fun e => hne _ e rfl))⟩
               rcases I3.out k e with h | h
               · exact hne k h
               · have := HL4.out.lt
                 omega)
            | exact ⟨0 + 1, n, by omega, by go_num, by omega, fun h => by first | omega | (exfalso; omega), hown, HO, hne, HL4⟩
      · obtain ⟨c0, c1, c2, c3⟩ := HL4.out
        have hj3 : gk = 3 := by omega
        subst hj3
        clear hj
        go_wp2_with (first
          | (go_at_call 31; refine (big u 2 _ hu (by decide)).mono ?_; rintro e w1 ⟨v, rfl, h1, h2⟩; obtain ⟨g, cap, rfl, hg1, hg2, hg3⟩ := h1.ne (be_length 2 u) (by decide); have H2 := hid h2; have H3 := hid hg3; have hz1 := h2.size; have hz2 : wr.heap.size < w1.heap.size := (by simp at hz1; omega); clear h1 h2 hg3)
          | (at_builtin; refine row_append rfl _ _ rfl w.heap.size (.slice (some ⟨wr.heap.size, 0, none⟩) 1 1) [UInt8.ofNat (208 + 1)] rfl ((row_one_lit wr w.heap.size (208 + 1) _ hbw (by decide)).only H2.out (fun _ _ h => h)) _ _ _ (be 2 u) rfl (be_length _ _) H3.out (by simp [be_length]) (by omega) ?_; intro v2 w2 r1 r2 r3; obtain ⟨g2, cap2, rfl, -, -, -⟩ := r1.ne (n := 2 + 1) (by simp [be_length]) (by omega); have R1 := hid r1; have R2 := hid r2; have R3 := hid r3; have hz3 := r2.size; have HX : Hid (Only (fun _ => False) wr w2) := hid (((Only.alloc (Only.refl (fun _ => False) _) _).trans H2.out).grown r2 (fun k e hk => by have := own1 e; omega)); clear r1 r2 r3)
          | (at_builtin; refine irow_push rfl _ _ rfl u8 rfl (hown.only HX.out (fun _ _ h => h)) _ rfl rfl rfl (UInt8.ofNat (208 + 1) :: be 2 u) R1.out (int_formINeg 1 2 (by decide) (by have := HW.out; first | omega | (simp; omega))) (fun k e e2 => by have := (hown.block e2).2; have := own1 e; rcases R3.out with h | h; (have := own1 (k := wr.heap.size) h; omega); (have := own1 h; omega)) (by omega) (by omega) ?_; intro v3 w3 i1 i2 i3; have I1 := hid i1; have I2 := hid i2; have I3 := hid i3; have hz4 := i2.size; clear i1 i2 i3))
        all_goals go_roundg 2
        all_goals try (case measure => omega)
        all_goals
          first
            | (refine ⟨1 + 1, n + 1, by omega, by go_num, by omega, fun _ => by omega, I1.out, hid ((HO.out.trans HX.out).grown I2.out (fun k e hk => by have := (hown.block e).1; omega)), fun k e => ?_, hid ((HL4.out.only HX.out (fun h => h)).only (Only.of_grown I2.out) (fun e => hne _ e rfl))⟩
               rcases I3.out k e with h | h
               · exact hne k h
               · have := HL4.out.lt
                 omega)
            | exact ⟨1 + 1, n, by omega, by go_num, by omega, fun h => by first | omega | (exfalso; omega), hown, HO, hne, HL4⟩
      · obtain ⟨c0, c1, c2, c3⟩ := HL4.out
        have hj3 : gk = 2 := by omega
        subst hj3
        clear hj
        go_wp2_with (first
          | (go_at_call 31; refine (big u 4 _ hu (by decide)).mono ?_; rintro e w1 ⟨v, rfl, h1, h2⟩; obtain ⟨g, cap, rfl, hg1, hg2, hg3⟩ := h1.ne (be_length 4 u) (by decide); have H2 := hid h2; have H3 := hid hg3; have hz1 := h2.size; have hz2 : wr.heap.size < w1.heap.size := (by simp at hz1; omega); clear h1 h2 hg3)
          | (at_builtin; refine row_append rfl _ _ rfl w.heap.size (.slice (some ⟨wr.heap.size, 0, none⟩) 1 1) [UInt8.ofNat (208 + 2)] rfl ((row_one_lit wr w.heap.size (208 + 2) _ hbw (by decide)).only H2.out (fun _ _ h => h)) _ _ _ (be 4 u) rfl (be_length _ _) H3.out (by simp [be_length]) (by omega) ?_; intro v2 w2 r1 r2 r3; obtain ⟨g2, cap2, rfl, -, -, -⟩ := r1.ne (n := 4 + 1) (by simp [be_length]) (by omega); have R1 := hid r1; have R2 := hid r2; have R3 := hid r3; have hz3 := r2.size; have HX : Hid (Only (fun _ => False) wr w2) := hid (((Only.alloc (Only.refl (fun _ => False) _) _).trans H2.out).grown r2 (fun k e hk => by have := own1 e; omega)); clear r1 r2 r3)
          | (at_builtin; refine irow_push rfl _ _ rfl u8 rfl (hown.only HX.out (fun _ _ h => h)) _ rfl rfl rfl (UInt8.ofNat (208 + 2) :: be 4 u) R1.out (int_formINeg 2 4 (by decide) (by have := HW.out; first | omega | (simp; omega))) (fun k e e2 => by have := (hown.block e2).2; have := own1 e; rcases R3.out with h | h; (have := own1 (k := wr.heap.size) h; omega); (have := own1 h; omega)) (by omega) (by omega) ?_; intro v3 w3 i1 i2 i3; have I1 := hid i1; have I2 := hid i2; have I3 := hid i3; have hz4 := i2.size; clear i1 i2 i3))
        all_goals go_roundg 1
        all_goals try (case measure => omega)
        all_goals
          first
            | (refine ⟨2 + 1, n + 1, by omega, by go_num, by omega, fun _ => by omega, I1.out, hid ((HO.out.trans HX.out).grown I2.out (fun k e hk => by have := (hown.block e).1; omega)), fun k e => ?_, hid ((HL4.out.only HX.out (fun h => h)).only (Only.of_grown I2.out) (fun e => hne _ e rfl))⟩
               rcases I3.out k e with h | h
               · exact hne k h
               · have := HL4.out.lt
                 omega)
            | exact ⟨2 + 1, n, by omega, by go_num, by omega, fun h => by first | omega | (exfalso; omega), hown, HO, hne, HL4⟩
      · obtain ⟨c0, c1, c2, c3⟩ := HL4.out
        have hj3 : gk = 1 := by omega
        subst hj3
        clear hj
        go_wp2_with (first
          | (go_at_call 31; refine (big u 8 _ hu (by decide)).mono ?_; rintro e w1 ⟨v, rfl, h1, h2⟩; obtain ⟨g, cap, rfl, hg1, hg2, hg3⟩ := h1.ne (be_length 8 u) (by decide); have H2 := hid h2; have H3 := hid hg3; have hz1 := h2.size; have hz2 : wr.heap.size < w1.heap.size := (by simp at hz1; omega); clear h1 h2 hg3)
          | (at_builtin; refine row_append rfl _ _ rfl w.heap.size (.slice (some ⟨wr.heap.size, 0, none⟩) 1 1) [UInt8.ofNat (208 + 3)] rfl ((row_one_lit wr w.heap.size (208 + 3) _ hbw (by decide)).only H2.out (fun _ _ h => h)) _ _ _ (be 8 u) rfl (be_length _ _) H3.out (by simp [be_length]) (by omega) ?_; intro v2 w2 r1 r2 r3; obtain ⟨g2, cap2, rfl, -, -, -⟩ := r1.ne (n := 8 + 1) (by simp [be_length]) (by omega); have R1 := hid r1; have R2 := hid r2; have R3 := hid r3; have hz3 := r2.size; have HX : Hid (Only (fun _ => False) wr w2) := hid (((Only.alloc (Only.refl (fun _ => False) _) _).trans H2.out).grown r2 (fun k e hk => by have := own1 e; omega)); clear r1 r2 r3)
          | (at_builtin; refine irow_push rfl _ _ rfl u8 rfl (hown.only HX.out (fun _ _ h => h)) _ rfl rfl rfl (UInt8.ofNat (208 + 3) :: be 8 u) R1.out (int_formINeg 3 8 (by decide) (by have := HW.out; first | omega | (simp; omega))) (fun k e e2 => by have := (hown.block e2).2; have := own1 e; rcases R3.out with h | h; (have := own1 (k := wr.heap.size) h; omega); (have := own1 h; omega)) (by omega) (by omega) ?_; intro v3 w3 i1 i2 i3; have I1 := hid i1; have I2 := hid i2; have I3 := hid i3; have hz4 := i2.size; clear i1 i2 i3))
        all_goals go_roundg 0
        all_goals try (case measure => omega)
        all_goals
          first
            | (refine ⟨3 + 1, n + 1, by omega, by go_num, by omega, fun _ => by omega, I1.out, hid ((HO.out.trans HX.out).grown I2.out (fun k e hk => by have := (hown.block e).1; omega)), fun k e => ?_, hid ((HL4.out.only HX.out (fun h => h)).only (Only.of_grown I2.out) (fun e => hne _ e rfl))⟩
               rcases I3.out k e with h | h
               · exact hne k h
               · have := HL4.out.lt
                 omega)
            | exact ⟨3 + 1, n, by omega, by go_num, by omega, fun h => by first | omega | (exfalso; omega), hown, HO, hne, HL4⟩
      · have hn0 : 0 < n := hn4 rfl
        obtain ⟨A, cap, rfl, hel⟩ := hown.open
        have HEL := hid hel
        have HR := hid hown
        clear hel hown
        have hfw := HFF.out.lt
        go_wp2_with (go_at_call 32; refine (pick f n _ (HFF.out.only HO.out (fun h => h)) hn0 (by omega)).mono ?_; rintro e w1 ⟨r, hr, rfl, h1, h2⟩; obtain ⟨g, x, bs, rfl, hc, hrow, hi, hg⟩ := HEL.out r hr; have d0 := (h1.cell (World.block_lt_of_cell? _ _ hc) (show ¬ g = f by omega)).trans hc; have H1 := hid h1; have H2 := hid h2; have HRow := hid (hrow.only h1 (fun k e hk => by have := (hrow.block e).1; have hk : k = f := hk; omega)); have HI := hid hi; clear h1 h2 hc hrow hi)
        go_ret
        exact ⟨_, _, rfl, HRow.out, HI.out, (HO.out.mono fun _ _ h => h.elim).trans H1.out, H2.out⟩
end Go.Proofs.YtbgckolcimlofaaGreatDoor
