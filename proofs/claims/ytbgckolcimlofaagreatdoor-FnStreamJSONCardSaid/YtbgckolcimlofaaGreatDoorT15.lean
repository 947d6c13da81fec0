/-
  putInt: a number in the form that was asked for; for every number.
-/
import Derived.Test.YtbgckolcimlofaaGreatDoorProg
import Derived.Test.YtbgckolcimlofaaGreatDoorT14
import Derived.Deep.QuietTactic
import Derived.BigQuiet
import Derived.Deep.LoopGhost
import Derived.Deep.DeepCutAuto
import Derived.Handy
import Derived.StillTailTactics
import Derived.Deep.RegionHeld3
set_option linter.unusedVariables false
set_option linter.unusedSimpArgs false
namespace Go.Proofs.YtbgckolcimlofaaGreatDoor
open Go.RowKit YtbgckolcimlofaaGreatDoorPj


theorem int_formIPos {u : Nat} (i s : Nat) (h : (i, s) ∈ [(0, 1), (1, 2), (2, 4), (3, 8)]) (hu : u < 2 ^ (8 * s - 1)) : IPos u (UInt8.ofNat (208 + i) :: be s u) := Or.inr (Or.inr ⟨i, s, h, hu, rfl⟩)
theorem FsAt.only {w w' : World} {A : Option Addr} {fs : List (Nat × Nat)} {S : Nat → Prop} (h : FsAt w A fs) (ho : Only S w w') (hS : ∀ b off, A = some ⟨b, off, none⟩ → ¬ S b) : FsAt w' A fs := by
  intro j hj
  obtain ⟨b, off, hA, c0, c1⟩ := h j hj
  have hl := World.block_lt_of_cell? _ _ c0
  exact ⟨b, off, hA, (ho.cell hl (hS b off hA)).trans c0, (ho.cell hl (hS b off hA)).trans c1⟩
theorem FsAt.new4 (w : World) (t : TypeId) (c0 s0 c1 s1 c2 s2 c3 s3 : Nat) : FsAt (w.alloc (.cells #[.int .i64 (c0 : Nat), .int .i64 (s0 : Nat), .int .i64 (c1 : Nat), .int .i64 (s1 : Nat), .int .i64 (c2 : Nat), .int .i64 (s2 : Nat), .int .i64 (c3 : Nat), .int .i64 (s3 : Nat)] t)) (some ⟨w.heap.size, 0, none⟩) [(c0, s0), (c1, s1), (c2, s2), (c3, s3)] := by
  intro j hj
  refine ⟨w.heap.size, 0, rfl, ?_⟩
  rcases (show j = 0 ∨ j = 1 ∨ j = 2 ∨ j = 3 by simp at hj; omega) with rfl | rfl | rfl | rfl <;> constructor <;> go_simp
def forms4 : List (Nat × Nat) := [(204, 1), (205, 2), (206, 4), (207, 8)]
theorem forms4_ok : ∀ f ∈ forms4, 0 < f.2 ∧ f.2 ≤ 8 ∧ f.1 < 256 := by decide
theorem forms4_pos (u : Nat) : 0 < (forms4.filter (holds u)).length :=
  List.length_pos_of_mem (a := (207, 8)) (List.mem_filter.2 ⟨by decide, by simp [holds]⟩)

theorem L4.get {w : World} {b : Nat} (h : L4 w b) (j : Nat) (hj : j < 4) : ∃ s : Nat, (j, s) ∈ [(0, 1), (1, 2), (2, 4), (3, 8)] ∧ 1 ≤ s ∧ s ≤ 8 ∧ w.cell? ⟨b, j, none⟩ = some (.int .i64 (s : Nat)) := by
  rcases (show j = 0 ∨ j = 1 ∨ j = 2 ∨ j = 3 by omega) with rfl | rfl | rfl | rfl
  · exact ⟨1, by decide, by decide, by decide, h.c0⟩
  · exact ⟨2, by decide, by decide, by decide, h.c1⟩
  · exact ⟨4, by decide, by decide, by decide, h.c2⟩
  · exact ⟨8, by decide, by decide, by decide, h.c3⟩
theorem shl_lim {u j s : Nat} (h : (j, s) ∈ [(0, 1), (1, 2), (2, 4), (3, 8)]) (hu : (u : Int) < IntKind.u64.wrap (2 ^ (8 * s - 1))) : u < 2 ^ (8 * s - 1) := by
  rw [IntKind.wrap_u64] at hu
  simp at h
  rcases h with ⟨-, rfl⟩ | ⟨-, rfl⟩ | ⟨-, rfl⟩ | ⟨-, rfl⟩ <;> simp at hu ⊢ <;> omega

theorem form_len (b : UInt8) (s u : Nat) : ([b] ++ be s u).length = s + 1 := by
  rw [List.length_append, be_length]
  simp
  omega
theorem row_one_j (w : World) (B j : Nat) (hB : B ≤ w.heap.size) (hj : j < 4) : Row (w.alloc (.cells #[.int .u8 (208 + (j : Int))] 5)) B (.slice (some ⟨w.heap.size, 0, none⟩) 1 1) [UInt8.ofNat (208 + j)] := by
  refine row_one_lit w B (208 + j) _ hB ?_
  simp
  omega

set_option maxRecDepth 100000 in
set_option maxHeartbeats 8000000 in
theorem putInt_pos (f u : Nat) (w : World) (hff : FormsAt w f) (hu : u < 9223372036854775808) :
    Calls Tryz.prog 19 #[.pointer (some ⟨f, 0, none⟩), .int .u64 (u : Nat), .bool true] w (IntPost f (IPos u) w) := by
  have HFF := hid hff
  clear hff
  have hle : (forms4.filter (holds u)).length ≤ 4 := List.length_filter_le _ _
  have hpos := forms4_pos u
  go_enter Tryz.func19, Tryz.ntmps19
  go_wp2_with (first
    | (at_builtin; refine irow_push rfl _ _ rfl (B := w.heap.size) (I := IPos u) (n := 0) (.slice none 0 0) rfl (IRow.nil _ _ _) _ rfl (by simp) rfl [UInt8.ofNat u] (row_one_lit _ _ u _ (Nat.le_refl _) (by simp; omega)) (Or.inl ⟨by omega, rfl⟩) (fun k _ e => (nomatch e)) (by simp) (by omega) ?_; intro v0 w0 i1 i2 i3; have J1 := hid i1; have J2 := hid i2; have J3 := hid i3; have hz0 := i2.size; clear i1 i2 i3)
    | (go_at_call 33; refine (sizes u (some ⟨_, 0, none⟩) 4 forms4 _ (by omega) (by decide) (FsAt.new4 _ _ 204 1 205 2 206 4 207 8) (fun f hf => (forms4_ok f hf).2.1)).mono ?_; rintro e w1 ⟨v, rfl, h1, h2⟩; obtain ⟨A1, cap1, rfl, h3⟩ := h1.at; have H4 := hid h1.blk; have hsz := h2.size; have H2 := hid h2; have H3 := hid h3; generalize hM : (forms4.filter (holds u)).length = M at *; have HM := hid hM; clear h1 h2 h3 hM))
  · go_loopg [11, 79] M (fun m v11 v79 wr => ∃ (j n : Nat), j + m = M ∧ v79 = .int .i64 (j : Nat) ∧ n ≤ j + 1 ∧ j ≤ n ∧ IRow wr w.heap.size (IPos u) v11 n ∧ Hid (Only (fun _ => False) w wr) ∧ Hid (∀ k, v11.ownBlock = some k → ∀ b off, A1 = some ⟨b, off, none⟩ → k ≠ b) ∧ Hid (FsAt wr A1 (forms4.filter (holds u))))
    case atStart =>
      exact ⟨0, 1, by omega, rfl, by omega, by omega, J1.out.only ((Only.alloc (Only.refl (fun _ => False) _) _).trans H2.out) (fun _ _ h => h), hid ((((Only.alloc (Only.refl (fun _ => False) _) _).grown J2.out (fun _ e _ => (nomatch e))).alloc _).trans H2.out), hid fun k e b off hA => (by have := (J1.out.block e).2; have := H4.out b off hA; simp at this; omega), H3⟩
    case round =>
      obtain ⟨j, n, hj, rfl, hnj, hn4, hown, HO, HNE, HFS⟩ := hrel
      have hbw : w.heap.size ≤ wr.heap.size := HO.out.size
      by_cases hlt : j < M
      · have hlt1 : j < (forms4.filter (holds u)).length := by have := HM.out; omega
        obtain ⟨b, off, rfl, d0, d1⟩ := HFS.out j hlt1
        have hmm := List.mem_filter.1 (List.getElem_mem hlt1)
        generalize hfj : (forms4.filter (holds u))[j] = fj at *
        obtain ⟨c, s⟩ := fj
        have HMM := hid hmm
        clear hfj hmm
        dsimp only at d0 d1
        have hbb := World.block_lt_of_cell? _ _ d0
        go_wp2_with (first
          | (go_at_call 20; refine (headed c s u _ (by omega) (forms4_ok _ HMM.out.1).2.1 (forms4_ok _ HMM.out.1).1 (forms4_ok _ HMM.out.1).2.2).mono ?_; rintro e w2 ⟨v, rfl, h1, h2⟩; obtain ⟨g2, cap2, rfl, hg1, -, -⟩ := h1.ne (n := s + 1) (by simp [be_length]) (by omega); have HX := hid ((Only.alloc (Only.refl (fun _ => False) wr) _).trans h2); have R1 := hid h1; have hz1 := h2.size; have hz2 : wr.heap.size < w2.heap.size := (by simp at hz1; omega); have hz3 : wr.heap.size < g2 := (by simp at hg1; omega); clear h1 h2 hg1 hz1)
          | (at_builtin; refine irow_push rfl _ _ rfl u11 rfl (hown.only HX.out (fun _ _ h => h)) _ rfl rfl rfl (UInt8.ofNat c :: be s u) (R1.out.base fun k e => (by have := own1 e; omega)) (Or.inr (Or.inl ⟨(c, s), HMM.out.1, HMM.out.2, rfl⟩)) (fun k e e2 => by have := own1 e; have := (hown.block e2).2; omega) (by omega) (by omega) ?_; intro v3 w3 i1 i2 i3; have I1 := hid i1; have I2 := hid i2; have I3 := hid i3; have hz4 := i2.size; clear i1 i2 i3))
        go_roundg (gk - 1)
        case measure => omega
        case rel =>
          refine ⟨j + 1, n + 1, by omega, by go_num, by omega, by omega, I1.out, hid ((HO.out.trans HX.out).grown I2.out (fun k e hk => by have := (hown.block e).1; omega)), hid fun k e b' off' hA => ?_, hid ((HFS.out.only HX.out (fun _ _ _ h => h)).only (Only.of_grown I2.out) (fun b' off' hA e => HNE.out _ e _ _ hA rfl))⟩
          rcases I3.out k e with h | h
          · exact HNE.out k h b' off' hA
          · injection hA with hA
            injection hA with hA
            omega
      · obtain rfl : j = M := by omega
        have hbw2 := hbw
        have HN := hid hnj
        have HN4 := hid hn4
        have HO2 := HO
        have HOWN := hid hown
        clear hnj hn4 HO hown
        obtain ⟨wo, rfl⟩ : ∃ wo : World, wo = wr := ⟨_, rfl⟩
        go_wp2
        go_loopg [11, 92] 4 (fun m v11 v92 wr => ∃ (j n : Nat), j + m = 4 ∧ v92 = .int .i64 (j : Nat) ∧ n ≤ j + 10 ∧ 0 < n ∧ IRow wr w.heap.size (IPos u) v11 n ∧ Hid (Only (fun _ => False) w wr) ∧ (∀ k, v11.ownBlock = some k → k ≠ wo.heap.size) ∧ Hid (L4 wr wo.heap.size))
        case atStart =>
          exact ⟨0, n, rfl, rfl, by have := HN.out; omega, by have := HN4.out; omega, HOWN.out.only (Only.alloc (Only.refl (fun _ => False) _) _) (fun _ _ h => h), hid (HO2.out.alloc _), fun k e => (by have := (HOWN.out.block e).2; omega), hid (L4.new _ _)⟩
        case round =>
          obtain ⟨j, n, hj, rfl, hnj, hn4, hown, HO, hne, HL4⟩ := hrel
          have hbw : w.heap.size ≤ wr.heap.size := HO.out.size
          have hlb := HL4.out.lt
          by_cases hlt : j < 4
          · obtain ⟨s, hjs, hs1, hs8, d0⟩ := HL4.out.get j hlt
            have HJS := hid hjs
            clear hjs
            go_wp2_with (first
              | (go_at_call 31; refine (big u s _ (by omega) (by omega)).mono ?_; rintro e w1 ⟨v, rfl, h1, h2⟩; obtain ⟨g, cap, rfl, hg1, hg2, hg3⟩ := h1.ne (be_length s u) (by omega); have H2 := hid h2; have H3 := hid hg3; have hz1 := h2.size; have hz2 : wr.heap.size < w1.heap.size := (by simp at hz1; omega); clear h1 h2 hg3)
              | (at_builtin; refine row_append rfl _ _ rfl w.heap.size (.slice (some ⟨wr.heap.size, 0, none⟩) 1 1) [UInt8.ofNat (208 + j)] rfl ((row_one_j wr w.heap.size j hbw hlt).only H2.out (fun _ _ h => h)) _ _ _ (be s u) rfl (be_length _ _) H3.out (by have := form_len (UInt8.ofNat (208 + j)) s u; rw [List.length_append] at this; omega) (by omega) ?_; intro v2 w2 r1 r2 r3; obtain ⟨g2, cap2, rfl, -, -, -⟩ := r1.ne (form_len _ s u) (by omega); have R1 := hid r1; have R2 := hid r2; have R3 := hid r3; have hz3 := r2.size; have HX : Hid (Only (fun _ => False) wr w2) := hid (((Only.alloc (Only.refl (fun _ => False) _) _).trans H2.out).grown r2 (fun k e hk => by have := own1 e; omega)); clear r1 r2 r3)
              | (at_builtin; refine irow_push rfl _ _ rfl u11 rfl (hown.only HX.out (fun _ _ h => h)) _ rfl rfl rfl (UInt8.ofNat (208 + j) :: be s u) R1.out (int_formIPos j s HJS.out (shl_lim HJS.out (by assumption))) (fun k e e2 => by have := (hown.block e2).2; have := own1 e; rcases R3.out with h | h; (have := own1 (k := wr.heap.size) h; omega); (have := own1 h; omega)) (by omega) (by omega) ?_; intro v3 w3 i1 i2 i3; have I1 := hid i1; have I2 := hid i2; have I3 := hid i3; have hz4 := i2.size; clear i1 i2 i3))
            all_goals go_roundg (gk - 1)
            all_goals try (case measure => omega)
            all_goals
              first
                | (refine ⟨j + 1, n + 1, by omega, by go_num, by omega, by omega, I1.out, hid ((HO.out.trans HX.out).grown I2.out (fun k e hk => by have := (hown.block e).1; omega)), fun k e => ?_, hid ((HL4.out.only HX.out (fun h => h)).only (Only.of_grown I2.out) (fun e => hne _ e rfl))⟩
                   rcases I3.out k e with h | h
                   · exact hne k h
                   · have := HL4.out.lt
                     omega)
                | exact ⟨j + 1, n, by omega, by go_num, by omega, by omega, hown, HO, hne, HL4⟩
          · obtain rfl : j = 4 := by omega
            obtain ⟨A, cap, rfl, hel⟩ := hown.open
            have HEL := hid hel
            have HR := hid hown
            clear hel hown
            have hfw := HFF.out.lt
            go_wp2_with (go_at_call 32; refine (pick f n _ (HFF.out.only HO.out (fun h => h)) hn4 (by omega)).mono ?_; rintro e w1 ⟨r, hr, rfl, h1, h2⟩; obtain ⟨g, x, bs, rfl, hc, hrow, hi, hg⟩ := HEL.out r hr; have d0 := (h1.cell (World.block_lt_of_cell? _ _ hc) (show ¬ g = f by omega)).trans hc; have H1 := hid h1; have H2 := hid h2; have HRow := hid (hrow.only h1 (fun k e hk => by have := (hrow.block e).1; have hk : k = f := hk; omega)); have HI := hid hi; clear h1 h2 hc hrow hi)
            go_ret
            exact ⟨_, _, rfl, HRow.out, HI.out, (HO.out.mono fun _ _ h => h.elim).trans H1.out, H2.out⟩
  · go_loopg [11, 79] M (fun m v11 v79 wr => ∃ (j n : Nat), j + m = M ∧ v79 = .int .i64 (j : Nat) ∧ n ≤ j + 1 ∧ j ≤ n ∧ IRow wr w.heap.size (IPos u) v11 n ∧ Hid (Only (fun _ => False) w wr) ∧ Hid (∀ k, v11.ownBlock = some k → ∀ b off, A1 = some ⟨b, off, none⟩ → k ≠ b) ∧ Hid (FsAt wr A1 (forms4.filter (holds u))))
    case atStart =>
      exact ⟨0, 0, by omega, rfl, by omega, by omega, IRow.nil _ _ _, hid ((Only.alloc (Only.refl (fun _ => False) _) _).trans H2.out), hid fun k e => (nomatch e), H3⟩
    case round =>
      obtain ⟨j, n, hj, rfl, hnj, hn4, hown, HO, HNE, HFS⟩ := hrel
      have hbw : w.heap.size ≤ wr.heap.size := HO.out.size
      by_cases hlt : j < M
      · have hlt1 : j < (forms4.filter (holds u)).length := by have := HM.out; omega
        obtain ⟨b, off, rfl, d0, d1⟩ := HFS.out j hlt1
        have hmm := List.mem_filter.1 (List.getElem_mem hlt1)
        generalize hfj : (forms4.filter (holds u))[j] = fj at *
        obtain ⟨c, s⟩ := fj
        have HMM := hid hmm
        clear hfj hmm
        dsimp only at d0 d1
        have hbb := World.block_lt_of_cell? _ _ d0
        go_wp2_with (first
          | (go_at_call 20; refine (headed c s u _ (by omega) (forms4_ok _ HMM.out.1).2.1 (forms4_ok _ HMM.out.1).1 (forms4_ok _ HMM.out.1).2.2).mono ?_; rintro e w2 ⟨v, rfl, h1, h2⟩; obtain ⟨g2, cap2, rfl, hg1, -, -⟩ := h1.ne (n := s + 1) (by simp [be_length]) (by omega); have HX := hid ((Only.alloc (Only.refl (fun _ => False) wr) _).trans h2); have R1 := hid h1; have hz1 := h2.size; have hz2 : wr.heap.size < w2.heap.size := (by simp at hz1; omega); have hz3 : wr.heap.size < g2 := (by simp at hg1; omega); clear h1 h2 hg1 hz1)
          | (at_builtin; refine irow_push rfl _ _ rfl u11 rfl (hown.only HX.out (fun _ _ h => h)) _ rfl rfl rfl (UInt8.ofNat c :: be s u) (R1.out.base fun k e => (by have := own1 e; omega)) (Or.inr (Or.inl ⟨(c, s), HMM.out.1, HMM.out.2, rfl⟩)) (fun k e e2 => by have := own1 e; have := (hown.block e2).2; omega) (by omega) (by omega) ?_; intro v3 w3 i1 i2 i3; have I1 := hid i1; have I2 := hid i2; have I3 := hid i3; have hz4 := i2.size; clear i1 i2 i3))
        go_roundg (gk - 1)
        case measure => omega
        case rel =>
          refine ⟨j + 1, n + 1, by omega, by go_num, by omega, by omega, I1.out, hid ((HO.out.trans HX.out).grown I2.out (fun k e hk => by have := (hown.block e).1; omega)), hid fun k e b' off' hA => ?_, hid ((HFS.out.only HX.out (fun _ _ _ h => h)).only (Only.of_grown I2.out) (fun b' off' hA e => HNE.out _ e _ _ hA rfl))⟩
          rcases I3.out k e with h | h
          · exact HNE.out k h b' off' hA
          · injection hA with hA
            injection hA with hA
            omega
      · obtain rfl : j = M := by omega
        have hbw2 := hbw
        have HN := hid hnj
        have HN4 := hid hn4
        have HO2 := HO
        have HOWN := hid hown
        clear hnj hn4 HO hown
        obtain ⟨wo, rfl⟩ : ∃ wo : World, wo = wr := ⟨_, rfl⟩
        go_wp2
        go_loopg [11, 92] 4 (fun m v11 v92 wr => ∃ (j n : Nat), j + m = 4 ∧ v92 = .int .i64 (j : Nat) ∧ n ≤ j + 10 ∧ 0 < n ∧ IRow wr w.heap.size (IPos u) v11 n ∧ Hid (Only (fun _ => False) w wr) ∧ (∀ k, v11.ownBlock = some k → k ≠ wo.heap.size) ∧ Hid (L4 wr wo.heap.size))
        case atStart =>
          exact ⟨0, n, rfl, rfl, by have := HN.out; omega, by have := HN4.out; omega, HOWN.out.only (Only.alloc (Only.refl (fun _ => False) _) _) (fun _ _ h => h), hid (HO2.out.alloc _), fun k e => (by have := (HOWN.out.block e).2; omega), hid (L4.new _ _)⟩
        case round =>
          obtain ⟨j, n, hj, rfl, hnj, hn4, hown, HO, hne, HL4⟩ := hrel
          have hbw : w.heap.size ≤ wr.heap.size := HO.out.size
          have hlb := HL4.out.lt
          by_cases hlt : j < 4
          · obtain ⟨s, hjs, hs1, hs8, d0⟩ := HL4.out.get j hlt
            have HJS := hid hjs
            clear hjs
            go_wp2_with (first
              | (go_at_call 31; refine (big u s _ (by omega) (by omega)).mono ?_; rintro e w1 ⟨v, rfl, h1, h2⟩; obtain ⟨g, cap, rfl, hg1, hg2, hg3⟩ := h1.ne (be_length s u) (by omega); have H2 := hid h2; have H3 := hid hg3; have hz1 := h2.size; have hz2 : wr.heap.size < w1.heap.size := (by simp at hz1; omega); clear h1 h2 hg3)
              | (at_builtin; refine row_append rfl _ _ rfl w.heap.size (.slice (some ⟨wr.heap.size, 0, none⟩) 1 1) [UInt8.ofNat (208 + j)] rfl ((row_one_j wr w.heap.size j hbw hlt).only H2.out (fun _ _ h => h)) _ _ _ (be s u) rfl (be_length _ _) H3.out (by have := form_len (UInt8.ofNat (208 + j)) s u; rw [List.length_append] at this; omega) (by omega) ?_; intro v2 w2 r1 r2 r3; obtain ⟨g2, cap2, rfl, -, -, -⟩ := r1.ne (form_len _ s u) (by omega); have R1 := hid r1; have R2 := hid r2; have R3 := hid r3; have hz3 := r2.size; have HX : Hid (Only (fun _ => False) wr w2) := hid (((Only.alloc (Only.refl (fun _ => False) _) _).trans H2.out).grown r2 (fun k e hk => by have := own1 e; omega)); clear r1 r2 r3)
              | (at_builtin; refine irow_push rfl _ _ rfl u11 rfl (hown.only HX.out (fun _ _ h => h)) _ rfl rfl rfl (UInt8.ofNat (208 + j) :: be s u) R1.out (int_formIPos j s HJS.out (shl_lim HJS.out (by assumption))) (fun k e e2 => by have := (hown.block e2).2; have := own1 e; rcases R3.out with h | h; (have := own1 (k := wr.heap.size) h; omega); (have := own1 h; omega)) (by omega) (by omega) ?_; intro v3 w3 i1 i2 i3; have I1 := hid i1; have I2 := hid i2; have I3 := hid i3; have hz4 := i2.size; clear i1 i2 i3))
            all_goals go_roundg (gk - 1)
            all_goals try (case measure => omega)
            all_goals
              first
                | (refine ⟨j + 1, n + 1, by omega, by go_num, by omega, by omega, I1.out, hid ((HO.out.trans HX.out).grown I2.out (fun k e hk => by have := (hown.block e).1; omega)), fun k e => ?_, hid ((HL4.out.only HX.out (fun h => h)).only (Only.of_grown I2.out) (fun e => hne _ e rfl))⟩
                   rcases I3.out k e with h | h
                   · exact hne k h
                   · have := HL4.out.lt
                     omega)
                | exact ⟨j + 1, n, by omega, by go_num, by omega, by omega, hown, HO, hne, HL4⟩
          · obtain rfl : j = 4 := by omega
            obtain ⟨A, cap, rfl, hel⟩ := hown.open
            have HEL := hid hel
            have HR := hid hown
            clear hel hown
            have hfw := HFF.out.lt
            go_wp2_with (go_at_call 32; refine (pick f n _ (HFF.out.only HO.out (fun h => h)) hn4 (by omega)).mono ?_; rintro e w1 ⟨r, hr, rfl, h1, h2⟩; obtain ⟨g, x, bs, rfl, hc, hrow, hi, hg⟩ := HEL.out r hr; have d0 := (h1.cell (World.block_lt_of_cell? _ _ hc) (show ¬ g = f by omega)).trans hc; have H1 := hid h1; have H2 := hid h2; have HRow := hid (hrow.only h1 (fun k e hk => by have := (hrow.block e).1; have hk : k = f := hk; omega)); have HI := hid hi; clear h1 h2 hc hrow hi)
            go_ret
            exact ⟨_, _, rfl, HRow.out, HI.out, (HO.out.mono fun _ _ h => h.elim).trans H1.out, H2.out⟩


set_option maxRecDepth 100000 in
set_option maxHeartbeats 8000000 in
theorem putInt_any (f u : Nat) (w : World) (hff : FormsAt w f) (hu : u < 18446744073709551616) :
    Calls Tryz.prog 19 #[.pointer (some ⟨f, 0, none⟩), .int .u64 (u : Nat), .bool false] w (IntPost f (IPos u) w) := by
  have HFF := hid hff
  clear hff
  have hle : (forms4.filter (holds u)).length ≤ 4 := List.length_filter_le _ _
  have hpos := forms4_pos u
  go_enter Tryz.func19, Tryz.ntmps19
  go_wp2_with (first
    | (at_builtin; refine irow_push rfl _ _ rfl (B := w.heap.size) (I := IPos u) (n := 0) (.slice none 0 0) rfl (IRow.nil _ _ _) _ rfl (by simp) rfl [UInt8.ofNat u] (row_one_lit _ _ u _ (Nat.le_refl _) (by simp; omega)) (Or.inl ⟨by omega, rfl⟩) (fun k _ e => (nomatch e)) (by simp) (by omega) ?_; intro v0 w0 i1 i2 i3; have J1 := hid i1; have J2 := hid i2; have J3 := hid i3; have hz0 := i2.size; clear i1 i2 i3)
    | (go_at_call 33; refine (sizes u (some ⟨_, 0, none⟩) 4 forms4 _ (by omega) (by decide) (FsAt.new4 _ _ 204 1 205 2 206 4 207 8) (fun f hf => (forms4_ok f hf).2.1)).mono ?_; rintro e w1 ⟨v, rfl, h1, h2⟩; obtain ⟨A1, cap1, rfl, h3⟩ := h1.at; have H4 := hid h1.blk; have hsz := h2.size; have H2 := hid h2; have H3 := hid h3; generalize hM : (forms4.filter (holds u)).length = M at *; have HM := hid hM; clear h1 h2 h3 hM))
  · go_loopg [11, 79] M (fun m v11 v79 wr => ∃ (j n : Nat), j + m = M ∧ v79 = .int .i64 (j : Nat) ∧ n ≤ j + 1 ∧ j ≤ n ∧ IRow wr w.heap.size (IPos u) v11 n ∧ Hid (Only (fun _ => False) w wr) ∧ Hid (∀ k, v11.ownBlock = some k → ∀ b off, A1 = some ⟨b, off, none⟩ → k ≠ b) ∧ Hid (FsAt wr A1 (forms4.filter (holds u))))
    case atStart =>
      exact ⟨0, 1, by omega, rfl, by omega, by omega, J1.out.only ((Only.alloc (Only.refl (fun _ => False) _) _).trans H2.out) (fun _ _ h => h), hid ((((Only.alloc (Only.refl (fun _ => False) _) _).grown J2.out (fun _ e _ => (nomatch e))).alloc _).trans H2.out), hid fun k e b off hA => (by have := (J1.out.block e).2; have := H4.out b off hA; simp at this; omega), H3⟩
    case round =>
      obtain ⟨j, n, hj, rfl, hnj, hn4, hown, HO, HNE, HFS⟩ := hrel
      have hbw : w.heap.size ≤ wr.heap.size := HO.out.size
      by_cases hlt : j < M
      · have hlt1 : j < (forms4.filter (holds u)).length := by have := HM.out; omega
        obtain ⟨b, off, rfl, d0, d1⟩ := HFS.out j hlt1
        have hmm := List.mem_filter.1 (List.getElem_mem hlt1)
        generalize hfj : (forms4.filter (holds u))[j] = fj at *
        obtain ⟨c, s⟩ := fj
        have HMM := hid hmm
        clear hfj hmm
        dsimp only at d0 d1
        have hbb := World.block_lt_of_cell? _ _ d0
        go_wp2_with (first
          | (go_at_call 20; refine (headed c s u _ (by omega) (forms4_ok _ HMM.out.1).2.1 (forms4_ok _ HMM.out.1).1 (forms4_ok _ HMM.out.1).2.2).mono ?_; rintro e w2 ⟨v, rfl, h1, h2⟩; obtain ⟨g2, cap2, rfl, hg1, -, -⟩ := h1.ne (n := s + 1) (by simp [be_length]) (by omega); have HX := hid ((Only.alloc (Only.refl (fun _ => False) wr) _).trans h2); have R1 := hid h1; have hz1 := h2.size; have hz2 : wr.heap.size < w2.heap.size := (by simp at hz1; omega); have hz3 : wr.heap.size < g2 := (by simp at hg1; omega); clear h1 h2 hg1 hz1)
          | (at_builtin; refine irow_push rfl _ _ rfl u11 rfl (hown.only HX.out (fun _ _ h => h)) _ rfl rfl rfl (UInt8.ofNat c :: be s u) (R1.out.base fun k e => (by have := own1 e; omega)) (Or.inr (Or.inl ⟨(c, s), HMM.out.1, HMM.out.2, rfl⟩)) (fun k e e2 => by have := own1 e; have := (hown.block e2).2; omega) (by omega) (by omega) ?_; intro v3 w3 i1 i2 i3; have I1 := hid i1; have I2 := hid i2; have I3 := hid i3; have hz4 := i2.size; clear i1 i2 i3))
        go_roundg (gk - 1)
        case measure => omega
        case rel =>
          refine ⟨j + 1, n + 1, by omega, by go_num, by omega, by omega, I1.out, hid ((HO.out.trans HX.out).grown I2.out (fun k e hk => by have := (hown.block e).1; omega)), hid fun k e b' off' hA => ?_, hid ((HFS.out.only HX.out (fun _ _ _ h => h)).only (Only.of_grown I2.out) (fun b' off' hA e => HNE.out _ e _ _ hA rfl))⟩
          rcases I3.out k e with h | h
          · exact HNE.out k h b' off' hA
          · injection hA with hA
            injection hA with hA
            omega
      · obtain rfl : j = M := by omega
        have hbw2 := hbw
        have HN := hid hnj
        have HN4 := hid hn4
        have HO2 := HO
        have HOWN := hid hown
        clear hnj hn4 HO hown
        obtain ⟨wo, rfl⟩ : ∃ wo : World, wo = wr := ⟨_, rfl⟩
        go_wp2
        go_loopg [11, 92] 4 (fun m v11 v92 wr => ∃ (j n : Nat), j + m = 4 ∧ v92 = .int .i64 (j : Nat) ∧ n ≤ j + 10 ∧ 0 < n ∧ IRow wr w.heap.size (IPos u) v11 n ∧ Hid (Only (fun _ => False) w wr) ∧ (∀ k, v11.ownBlock = some k → k ≠ wo.heap.size) ∧ Hid (L4 wr wo.heap.size))
        case atStart =>
          exact ⟨0, n, rfl, rfl, by have := HN.out; omega, by have := HN4.out; omega, HOWN.out.only (Only.alloc (Only.refl (fun _ => False) _) _) (fun _ _ h => h), hid (HO2.out.alloc _), fun k e => (by have := (HOWN.out.block e).2; omega), hid (L4.new _ _)⟩
        case round =>
          obtain ⟨j, n, hj, rfl, hnj, hn4, hown, HO, hne, HL4⟩ := hrel
          have hbw : w.heap.size ≤ wr.heap.size := HO.out.size
          have hlb := HL4.out.lt
          by_cases hlt : j < 4
          · obtain ⟨s, hjs, hs1, hs8, d0⟩ := HL4.out.get j hlt
            have HJS := hid hjs
            clear hjs
            go_wp2_with (first
              | (go_at_call 31; refine (big u s _ (by omega) (by omega)).mono ?_; rintro e w1 ⟨v, rfl, h1, h2⟩; obtain ⟨g, cap, rfl, hg1, hg2, hg3⟩ := h1.ne (be_length s u) (by omega); have H2 := hid h2; have H3 := hid hg3; have hz1 := h2.size; have hz2 : wr.heap.size < w1.heap.size := (by simp at hz1; omega); clear h1 h2 hg3)
              | (at_builtin; refine row_append rfl _ _ rfl w.heap.size (.slice (some ⟨wr.heap.size, 0, none⟩) 1 1) [UInt8.ofNat (208 + j)] rfl ((row_one_j wr w.heap.size j hbw hlt).only H2.out (fun _ _ h => h)) _ _ _ (be s u) rfl (be_length _ _) H3.out (by have := form_len (UInt8.ofNat (208 + j)) s u; rw [List.length_append] at this; omega) (by omega) ?_; intro v2 w2 r1 r2 r3; obtain ⟨g2, cap2, rfl, -, -, -⟩ := r1.ne (form_len _ s u) (by omega); have R1 := hid r1; have R2 := hid r2; have R3 := hid r3; have hz3 := r2.size; have HX : Hid (Only (fun _ => False) wr w2) := hid (((Only.alloc (Only.refl (fun _ => False) _) _).trans H2.out).grown r2 (fun k e hk => by have := own1 e; omega)); clear r1 r2 r3)
              | (at_builtin; refine irow_push rfl _ _ rfl u11 rfl (hown.only HX.out (fun _ _ h => h)) _ rfl rfl rfl (UInt8.ofNat (208 + j) :: be s u) R1.out (int_formIPos j s HJS.out (shl_lim HJS.out (by assumption))) (fun k e e2 => by have := (hown.block e2).2; have := own1 e; rcases R3.out with h | h; (have := own1 (k := wr.heap.size) h; omega); (have := own1 h; omega)) (by omega) (by omega) ?_; intro v3 w3 i1 i2 i3; have I1 := hid i1; have I2 := hid i2; have I3 := hid i3; have hz4 := i2.size; clear i1 i2 i3))
            all_goals go_roundg (gk - 1)
            all_goals try (case measure => omega)
            all_goals
              first
                | (refine ⟨j + 1, n + 1, by omega, by go_num, by omega, by omega, I1.out, hid ((HO.out.trans HX.out).grown I2.out (fun k e hk => by have := (hown.block e).1; omega)), fun k e => ?_, hid ((HL4.out.only HX.out (fun h => h)).only (Only.of_grown I2.out) (fun e => hne _ e rfl))⟩
                   rcases I3.out k e with h | h
                   · exact hne k h
                   · have := HL4.out.lt
                     omega)
                | exact ⟨j + 1, n, by omega, by go_num, by omega, by omega, hown, HO, hne, HL4⟩
          · obtain rfl : j = 4 := by omega
            obtain ⟨A, cap, rfl, hel⟩ := hown.open
            have HEL := hid hel
            have HR := hid hown
            clear hel hown
            have hfw := HFF.out.lt
            go_wp2_with (go_at_call 32; refine (pick f n _ (HFF.out.only HO.out (fun h => h)) hn4 (by omega)).mono ?_; rintro e w1 ⟨r, hr, rfl, h1, h2⟩; obtain ⟨g, x, bs, rfl, hc, hrow, hi, hg⟩ := HEL.out r hr; have d0 := (h1.cell (World.block_lt_of_cell? _ _ hc) (show ¬ g = f by omega)).trans hc; have H1 := hid h1; have H2 := hid h2; have HRow := hid (hrow.only h1 (fun k e hk => by have := (hrow.block e).1; have hk : k = f := hk; omega)); have HI := hid hi; clear h1 h2 hc hrow hi)
            go_ret
            exact ⟨_, _, rfl, HRow.out, HI.out, (HO.out.mono fun _ _ h => h.elim).trans H1.out, H2.out⟩
  · go_loopg [11, 79] M (fun m v11 v79 wr => ∃ (j n : Nat), j + m = M ∧ v79 = .int .i64 (j : Nat) ∧ n ≤ j + 1 ∧ j ≤ n ∧ IRow wr w.heap.size (IPos u) v11 n ∧ Hid (Only (fun _ => False) w wr) ∧ Hid (∀ k, v11.ownBlock = some k → ∀ b off, A1 = some ⟨b, off, none⟩ → k ≠ b) ∧ Hid (FsAt wr A1 (forms4.filter (holds u))))
    case atStart =>
      exact ⟨0, 0, by omega, rfl, by omega, by omega, IRow.nil _ _ _, hid ((Only.alloc (Only.refl (fun _ => False) _) _).trans H2.out), hid fun k e => (nomatch e), H3⟩
    case round =>
      obtain ⟨j, n, hj, rfl, hnj, hn4, hown, HO, HNE, HFS⟩ := hrel
      have hbw : w.heap.size ≤ wr.heap.size := HO.out.size
      by_cases hlt : j < M
      · have hlt1 : j < (forms4.filter (holds u)).length := by have := HM.out; omega
        obtain ⟨b, off, rfl, d0, d1⟩ := HFS.out j hlt1
        have hmm := List.mem_filter.1 (List.getElem_mem hlt1)
        generalize hfj : (forms4.filter (holds u))[j] = fj at *
        obtain ⟨c, s⟩ := fj
        have HMM := hid hmm
        clear hfj hmm
        dsimp only at d0 d1
        have hbb := World.block_lt_of_cell? _ _ d0
        go_wp2_with (first
          | (go_at_call 20; refine (headed c s u _ (by omega) (forms4_ok _ HMM.out.1).2.1 (forms4_ok _ HMM.out.1).1 (forms4_ok _ HMM.out.1).2.2).mono ?_; rintro e w2 ⟨v, rfl, h1, h2⟩; obtain ⟨g2, cap2, rfl, hg1, -, -⟩ := h1.ne (n := s + 1) (by simp [be_length]) (by omega); have HX := hid ((Only.alloc (Only.refl (fun _ => False) wr) _).trans h2); have R1 := hid h1; have hz1 := h2.size; have hz2 : wr.heap.size < w2.heap.size := (by simp at hz1; omega); have hz3 : wr.heap.size < g2 := (by simp at hg1; omega); clear h1 h2 hg1 hz1)
          | (at_builtin; refine irow_push rfl _ _ rfl u11 rfl (hown.only HX.out (fun _ _ h => h)) _ rfl rfl rfl (UInt8.ofNat c :: be s u) (R1.out.base fun k e => (by have := own1 e; omega)) (Or.inr (Or.inl ⟨(c, s), HMM.out.1, HMM.out.2, rfl⟩)) (fun k e e2 => by have := own1 e; have := (hown.block e2).2; omega) (by omega) (by omega) ?_; intro v3 w3 i1 i2 i3; have I1 := hid i1; have I2 := hid i2; have I3 := hid i3; have hz4 := i2.size; clear i1 i2 i3))
        go_roundg (gk - 1)
        case measure => omega
        case rel =>
          refine ⟨j + 1, n + 1, by omega, by go_num, by omega, by omega, I1.out, hid ((HO.out.trans HX.out).grown I2.out (fun k e hk => by have := (hown.block e).1; omega)), hid fun k e b' off' hA => ?_, hid ((HFS.out.only HX.out (fun _ _ _ h => h)).only (Only.of_grown I2.out) (fun b' off' hA e => HNE.out _ e _ _ hA rfl))⟩
          rcases I3.out k e with h | h
          · exact HNE.out k h b' off' hA
          · injection hA with hA
            injection hA with hA
            omega
      · obtain rfl : j = M := by omega
        have hbw2 := hbw
        have HN := hid hnj
        have HN4 := hid hn4
        have HO2 := HO
        have HOWN := hid hown
        clear hnj hn4 HO hown
        obtain ⟨wo, rfl⟩ : ∃ wo : World, wo = wr := ⟨_, rfl⟩
        go_wp2
        go_loopg [11, 92] 4 (fun m v11 v92 wr => ∃ (j n : Nat), j + m = 4 ∧ v92 = .int .i64 (j : Nat) ∧ n ≤ j + 10 ∧ 0 < n ∧ IRow wr w.heap.size (IPos u) v11 n ∧ Hid (Only (fun _ => False) w wr) ∧ (∀ k, v11.ownBlock = some k → k ≠ wo.heap.size) ∧ Hid (L4 wr wo.heap.size))
        case atStart =>
          exact ⟨0, n, rfl, rfl, by have := HN.out; omega, by have := HN4.out; omega, HOWN.out.only (Only.alloc (Only.refl (fun _ => False) _) _) (fun _ _ h => h), hid (HO2.out.alloc _), fun k e => (by have := (HOWN.out.block e).2; omega), hid (L4.new _ _)⟩
        case round =>
          obtain ⟨j, n, hj, rfl, hnj, hn4, hown, HO, hne, HL4⟩ := hrel
          have hbw : w.heap.size ≤ wr.heap.size := HO.out.size
          have hlb := HL4.out.lt
          by_cases hlt : j < 4
          · obtain ⟨s, hjs, hs1, hs8, d0⟩ := HL4.out.get j hlt
            have HJS := hid hjs
            clear hjs
            go_wp2_with (first
              | (go_at_call 31; refine (big u s _ (by omega) (by omega)).mono ?_; rintro e w1 ⟨v, rfl, h1, h2⟩; obtain ⟨g, cap, rfl, hg1, hg2, hg3⟩ := h1.ne (be_length s u) (by omega); have H2 := hid h2; have H3 := hid hg3; have hz1 := h2.size; have hz2 : wr.heap.size < w1.heap.size := (by simp at hz1; omega); clear h1 h2 hg3)
              | (at_builtin; refine row_append rfl _ _ rfl w.heap.size (.slice (some ⟨wr.heap.size, 0, none⟩) 1 1) [UInt8.ofNat (208 + j)] rfl ((row_one_j wr w.heap.size j hbw hlt).only H2.out (fun _ _ h => h)) _ _ _ (be s u) rfl (be_length _ _) H3.out (by have := form_len (UInt8.ofNat (208 + j)) s u; rw [List.length_append] at this; omega) (by omega) ?_; intro v2 w2 r1 r2 r3; obtain ⟨g2, cap2, rfl, -, -, -⟩ := r1.ne (form_len _ s u) (by omega); have R1 := hid r1; have R2 := hid r2; have R3 := hid r3; have hz3 := r2.size; have HX : Hid (Only (fun _ => False) wr w2) := hid (((Only.alloc (Only.refl (fun _ => False) _) _).trans H2.out).grown r2 (fun k e hk => by have := own1 e; omega)); clear r1 r2 r3)
              | (at_builtin; refine irow_push rfl _ _ rfl u11 rfl (hown.only HX.out (fun _ _ h => h)) _ rfl rfl rfl (UInt8.ofNat (208 + j) :: be s u) R1.out (int_formIPos j s HJS.out (shl_lim HJS.out (by assumption))) (fun k e e2 => by have := (hown.block e2).2; have := own1 e; rcases R3.out with h | h; (have := own1 (k := wr.heap.size) h; omega); (have := own1 h; omega)) (by omega) (by omega) ?_; intro v3 w3 i1 i2 i3; have I1 := hid i1; have I2 := hid i2; have I3 := hid i3; have hz4 := i2.size; clear i1 i2 i3))
            all_goals go_roundg (gk - 1)
            all_goals try (case measure => omega)
            all_goals
              first
                | (refine ⟨j + 1, n + 1, by omega, by go_num, by omega, by omega, I1.out, hid ((HO.out.trans HX.out).grown I2.out (fun k e hk => by have := (hown.block e).1; omega)), fun k e => ?_, hid ((HL4.out.only HX.out (fun h => h)).only (Only.of_grown I2.out) (fun e => hne _ e rfl))⟩
                   rcases I3.out k e with h | h
                   · exact hne k h
                   · have := HL4.out.lt
                     omega)
                | exact ⟨j + 1, n, by omega, by go_num, by omega, by omega, hown, HO, hne, HL4⟩
          · obtain rfl : j = 4 := by omega
            obtain ⟨A, cap, rfl, hel⟩ := hown.open
            have HEL := hid hel
            have HR := hid hown
            clear hel hown
            have hfw := HFF.out.lt
            go_wp2_with (go_at_call 32; refine (pick f n _ (HFF.out.only HO.out (fun h => h)) hn4 (by omega)).mono ?_; rintro e w1 ⟨r, hr, rfl, h1, h2⟩; obtain ⟨g, x, bs, rfl, hc, hrow, hi, hg⟩ := HEL.out r hr; have d0 := (h1.cell (World.block_lt_of_cell? _ _ hc) (show ¬ g = f by omega)).trans hc; have H1 := hid h1; have H2 := hid h2; have HRow := hid (hrow.only h1 (fun k e hk => by have := (hrow.block e).1; have hk : k = f := hk; omega)); have HI := hid hi; clear h1 h2 hc hrow hi)
            go_ret
            exact ⟨_, _, rfl, HRow.out, HI.out, (HO.out.mono fun _ _ h => h.elim).trans H1.out, H2.out⟩

end Go.Proofs.YtbgckolcimlofaaGreatDoor
