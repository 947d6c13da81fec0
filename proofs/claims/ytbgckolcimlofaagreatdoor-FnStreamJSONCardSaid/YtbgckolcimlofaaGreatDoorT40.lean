/-
  more with nothing ahead keeps io.EOF in the source; where io.EOF is laid.
-/
import Derived.Test.YtbgckolcimlofaaGreatDoorProg
import Derived.Test.YtbgckolcimlofaaGreatDoorT39
import Derived.Test.YtbgckolcimlofaaGreatDoorT05
set_option linter.unusedVariables false
set_option linter.unusedSimpArgs false
namespace Go.Proofs.YtbgckolcimlofaaGreatDoor
open Go.RowKit YtbgckolcimlofaaGreatDoorPj

/-- A source that has met its end. -/
def EndAt (w : World) (s : Nat) (v : Value) : Prop := (∃ A cap, w.cell? ⟨s, 1, none⟩ = some (.slice A 0 cap)) ∧ w.cell? ⟨s, 2, none⟩ = some (.int .i64 0) ∧ w.cell? ⟨s, 4, none⟩ = some v
theorem EndAt.only {w w' : World} {S : Nat → Prop} {s : Nat} {v : Value} (h : EndAt w s v) (ho : Only S w w') (hS : ¬ S s) : EndAt w' s v := by
  obtain ⟨⟨A, cap, h1⟩, h2, h3⟩ := h
  have hl := World.block_lt_of_cell? w _ h1
  exact ⟨⟨A, cap, (ho.cell hl hS).trans h1⟩, (ho.cell hl hS).trans h2, (ho.cell hl hS).trans h3⟩
def EndPost (F : Nat → Prop) (s : Nat) (v : Value) (w : World) (e : Ending) (w' : World) : Prop := e = .returned (.tuple #[]) ∧ EndAt w' s v ∧ Only F w w'
set_option maxRecDepth 100000 in
set_option maxHeartbeats 40000000 in
theorem more_end (w : World) (F : Nat → Prop) (s : Nat) (room v : Value) (buf : List UInt8) (h : Src w F s room buf.length buf []) (hv : EofAt w v) (hF0 : ¬ F 0) :
    Calls Tryz.prog 63 #[.pointer (some ⟨s, 0, none⟩), .int .i64 1] w (EndPost F s v w) := by
  have HS := hid h
  obtain ⟨q, rfl⟩ := hv.2
  obtain ⟨A, cap, rfl, hc1, hc2⟩ := h.room
  have c1 := h.c1
  have c2 := h.c2
  have c4 := h.c4
  have f1 := h.f1
  have f2 := h.f2
  have hbig := h.big
  have hb : buf.length ≤ 1099511627776 := by omega
  clear h hbig
  generalize hB : buf.length = nb at c1 hc1 hb c2 HS
  have HB := hid hB
  clear hB
  have hw1 : IntKind.i64.wrap ((nb : Int) - (nb : Int)) = 0 := by rw [Int.sub_self]; rfl
  have hsl := World.block_lt_of_cell? w _ c1
  go_enter Tryz.func63, Tryz.ntmps63
  go_wp2
  go_quiet (fail)
  go_upto_region 1 with fail
  go_cut [] (fun wx => ∃ w0, Only (fun _ => False) w w0 ∧ wx = w0.setCell ⟨s, 1, none⟩ (.slice A 0 cap))
  case first =>
    refine wp_region_ahd 20 (fun w' => w'.cell? ⟨s, 1, none⟩ = some (.slice A nb cap) ∧ w'.cell? ⟨s, 2, none⟩ = some (.int .i64 (nb : Nat))) (by kernel_rfl) ⟨by kernel_rfl, by kernel_rfl, by kernel_rfl, by kernel_rfl⟩ ⟨by go_simp, by go_simp⟩ ?_
    intro hS0 ok
    have OK := hid ok
    clear ok
    refine AhdI.take (i := 0) (v := ?_) OK.out (by simp only [List.getElem?_toArray, List.getElem?_cons_succ, List.getElem?_cons_zero]; rfl) (by simp) (by kernel_rfl) (by kernel_rfl) (by exact fun _ _ _ h => h) (by assumption) (Or.inl ⟨by rfl, ?_⟩) ?_
    rotate_left 1
    · intro w hSw
      obtain ⟨hS1, hS2⟩ := hSw
      go_simp
      try with_reducible rfl
    try simp only [Act.put, List.setIfInBounds_toArray, List.set_cons_zero, List.set_cons_succ]
    refine AhdI.take (i := 1) (v := ?_) OK.out (by simp only [List.getElem?_toArray, List.getElem?_cons_succ, List.getElem?_cons_zero]; rfl) (by simp) (by kernel_rfl) (by kernel_rfl) (by exact fun _ _ _ h => h) (by assumption) (Or.inl ⟨by rfl, ?_⟩) ?_
    rotate_left 1
    · intro w hSw
      obtain ⟨hS1, hS2⟩ := hSw
      go_simp
      try with_reducible rfl
    try simp only [Act.put, List.setIfInBounds_toArray, List.set_cons_zero, List.set_cons_succ]
    refine AhdI.take (i := 2) (v := ?_) OK.out (by simp only [List.getElem?_toArray, List.getElem?_cons_succ, List.getElem?_cons_zero]; rfl) (by simp) (by kernel_rfl) (by kernel_rfl) (by exact fun _ _ _ h => h) (by assumption) (Or.inl ⟨by rfl, ?_⟩) ?_
    rotate_left 1
    · intro w hSw
      obtain ⟨hS1, hS2⟩ := hSw
      go_simp
      try with_reducible rfl
    try simp only [Act.put, List.setIfInBounds_toArray, List.set_cons_zero, List.set_cons_succ]
    refine AhdI.take (i := 3) (v := ?_) OK.out (by simp only [List.getElem?_toArray, List.getElem?_cons_succ, List.getElem?_cons_zero]; rfl) (by simp) (by kernel_rfl) (by kernel_rfl) (by exact fun _ _ _ h => h) (by assumption) (Or.inl ⟨by rfl, ?_⟩) ?_
    rotate_left 1
    · intro w hSw
      obtain ⟨hS1, hS2⟩ := hSw
      go_simp
      try with_reducible rfl
    try simp only [Act.put, List.setIfInBounds_toArray, List.set_cons_zero, List.set_cons_succ]
    refine AhdI.take (i := 4) (v := ?_) OK.out (by simp only [List.getElem?_toArray, List.getElem?_cons_succ, List.getElem?_cons_zero]; rfl) (by simp) (by kernel_rfl) (by kernel_rfl) (by exact fun _ _ _ h => h) (by assumption) (Or.inl ⟨by rfl, ?_⟩) ?_
    rotate_left 1
    · intro w hSw
      obtain ⟨hS1, hS2⟩ := hSw
      go_simp
      try with_reducible rfl
    try simp only [Act.put, List.setIfInBounds_toArray, List.set_cons_zero, List.set_cons_succ]
    refine AhdI.take (i := 5) (v := ?_) OK.out (by simp only [List.getElem?_toArray, List.getElem?_cons_succ, List.getElem?_cons_zero]; rfl) (by simp) (by kernel_rfl) (by kernel_rfl) (by exact fun _ _ _ h => h) (by assumption) (Or.inl ⟨by rfl, ?_⟩) ?_
    rotate_left 1
    · intro w hSw
      obtain ⟨hS1, hS2⟩ := hSw
      go_simp
      try with_reducible rfl
    try simp only [Act.put, List.setIfInBounds_toArray, List.set_cons_zero, List.set_cons_succ]
    refine AhdI.take (i := 6) (v := ?_) OK.out (by simp only [List.getElem?_toArray, List.getElem?_cons_succ, List.getElem?_cons_zero]; rfl) (by simp) (by kernel_rfl) (by kernel_rfl) (by exact fun _ _ _ h => h) (by assumption) (Or.inl ⟨by rfl, ?_⟩) ?_
    rotate_left 1
    · intro w hSw
      obtain ⟨hS1, hS2⟩ := hSw
      go_simp
      try with_reducible rfl
    try simp only [Act.put, List.setIfInBounds_toArray, List.set_cons_zero, List.set_cons_succ]
    refine AhdI.take (i := 7) (v := ?_) OK.out (by simp only [List.getElem?_toArray, List.getElem?_cons_succ, List.getElem?_cons_zero]; rfl) (by simp) (by kernel_rfl) (by kernel_rfl) (by exact fun _ _ _ h => h) (by assumption) (Or.inl ⟨by rfl, ?_⟩) ?_
    rotate_left 1
    · intro w hSw
      obtain ⟨hS1, hS2⟩ := hSw
      go_simp
      try with_reducible rfl
    try simp only [Act.put, List.setIfInBounds_toArray, List.set_cons_zero, List.set_cons_succ]
    refine AhdI.take (i := 8) (v := ?_) OK.out (by simp only [List.getElem?_toArray, List.getElem?_cons_succ, List.getElem?_cons_zero]; rfl) (by simp) (by kernel_rfl) (by kernel_rfl) (by exact fun _ _ _ h => h) (by assumption) (Or.inl ⟨by rfl, ?_⟩) ?_
    rotate_left 1
    · intro w hSw
      obtain ⟨hS1, hS2⟩ := hSw
      go_simp
      try with_reducible rfl
    try simp only [Act.put, List.setIfInBounds_toArray, List.set_cons_zero, List.set_cons_succ]
    refine AhdI.take (i := 9) (v := ?_) OK.out (by simp only [List.getElem?_toArray, List.getElem?_cons_succ, List.getElem?_cons_zero]; rfl) (by simp) (by kernel_rfl) (by kernel_rfl) (by exact fun _ _ _ h => h) (by assumption) (Or.inl ⟨by rfl, ?_⟩) ?_
    rotate_left 1
    · intro w hSw
      obtain ⟨hS1, hS2⟩ := hSw
      go_simp
      try with_reducible rfl
    try simp only [Act.put, List.setIfInBounds_toArray, List.set_cons_zero, List.set_cons_succ]
    refine AhdI.take (i := 10) (v := ?_) OK.out (by simp only [List.getElem?_toArray, List.getElem?_cons_succ, List.getElem?_cons_zero]; rfl) (by simp) (by kernel_rfl) (by kernel_rfl) (by exact fun _ _ _ h => h) (by assumption) (Or.inl ⟨by rfl, ?_⟩) ?_
    rotate_left 1
    · intro w hSw
      obtain ⟨hS1, hS2⟩ := hSw
      go_simp
      try with_reducible rfl
    try simp only [Act.put, List.setIfInBounds_toArray, List.set_cons_zero, List.set_cons_succ]
    refine AhdI.take (i := 11) (v := ?_) OK.out (by simp only [List.getElem?_toArray, List.getElem?_cons_succ, List.getElem?_cons_zero]; rfl) (by simp) (by kernel_rfl) (by kernel_rfl) (by exact fun _ _ _ h => h) (by assumption) (Or.inl ⟨by rfl, ?_⟩) ?_
    rotate_left 1
    · intro w hSw
      obtain ⟨hS1, hS2⟩ := hSw
      go_simp
      try with_reducible rfl
    try simp only [Act.put, List.setIfInBounds_toArray, List.set_cons_zero, List.set_cons_succ]
    refine AhdI.take (i := 12) (v := ?_) OK.out (by simp only [List.getElem?_toArray, List.getElem?_cons_succ, List.getElem?_cons_zero]; rfl) (by simp) (by kernel_rfl) (by kernel_rfl) (by exact fun _ _ _ h => h) (by assumption) (Or.inl ⟨by rfl, ?_⟩) ?_
    rotate_left 1
    · intro w hSw
      obtain ⟨hS1, hS2⟩ := hSw
      go_simp
      try with_reducible rfl
    try simp only [Act.put, List.setIfInBounds_toArray, List.set_cons_zero, List.set_cons_succ]
    refine AhdI.take (i := 13) (v := ?_) OK.out (by simp only [List.getElem?_toArray, List.getElem?_cons_succ, List.getElem?_cons_zero]; rfl) (by simp) (by kernel_rfl) (by kernel_rfl) (by exact fun _ _ _ h => h) (by assumption) (Or.inl ⟨by rfl, ?_⟩) ?_
    rotate_left 1
    · intro w hSw
      obtain ⟨hS1, hS2⟩ := hSw
      go_simp
      try with_reducible rfl
    try simp only [Act.put, List.setIfInBounds_toArray, List.set_cons_zero, List.set_cons_succ]
    refine AhdI.take (i := 14) (v := ?_) OK.out (by simp only [List.getElem?_toArray, List.getElem?_cons_succ, List.getElem?_cons_zero]; rfl) (by simp) (by kernel_rfl) (by kernel_rfl) (by exact fun _ _ _ h => h) (by assumption) (Or.inl ⟨by rfl, ?_⟩) ?_
    rotate_left 1
    · intro w hSw
      obtain ⟨hS1, hS2⟩ := hSw
      go_simp
      try with_reducible rfl
    try simp only [Act.put, List.setIfInBounds_toArray, List.set_cons_zero, List.set_cons_succ]
    refine AhdI.take (i := 15) (v := ?_) OK.out (by simp only [List.getElem?_toArray, List.getElem?_cons_succ, List.getElem?_cons_zero]; rfl) (by simp) (by kernel_rfl) (by kernel_rfl) (by exact fun _ _ _ h => h) (by assumption) (Or.inl ⟨by rfl, ?_⟩) ?_
    rotate_left 1
    · intro w hSw
      obtain ⟨hS1, hS2⟩ := hSw
      go_simp
      try with_reducible rfl
    try simp only [Act.put, List.setIfInBounds_toArray, List.set_cons_zero, List.set_cons_succ]
    refine AhdI.take (i := 16) (v := ?_) OK.out (by simp only [List.getElem?_toArray, List.getElem?_cons_succ, List.getElem?_cons_zero]; rfl) (by simp) (by kernel_rfl) (by kernel_rfl) (by exact fun _ _ _ h => h) (by assumption) (Or.inl ⟨by rfl, ?_⟩) ?_
    rotate_left 1
    · intro w hSw
      obtain ⟨hS1, hS2⟩ := hSw
      go_simp
      try with_reducible rfl
    try simp only [Act.put, List.setIfInBounds_toArray, List.set_cons_zero, List.set_cons_succ]
    refine AhdI.take (i := 17) (v := ?_) OK.out (by simp only [List.getElem?_toArray, List.getElem?_cons_succ, List.getElem?_cons_zero]; rfl) (by simp) (by kernel_rfl) (by kernel_rfl) (by exact fun _ _ _ h => h) (by assumption) (Or.inl ⟨by rfl, ?_⟩) ?_
    rotate_left 1
    · intro w hSw
      obtain ⟨hS1, hS2⟩ := hSw
      go_simp
      try with_reducible rfl
    try simp only [Act.put, List.setIfInBounds_toArray, List.set_cons_zero, List.set_cons_succ]
    refine AhdI.one (i := 18) (by simp only [List.getElem?_toArray, List.getElem?_cons_succ, List.getElem?_cons_zero]; rfl) (by simp) (by kernel_rfl) (fun K' hK => ?_)
    refine step_copy_gen rfl _ _ rfl _ _ _ _ _ _ rfl rfl [] (by show 0 = min _ _; omega) (fun h => absurd h (by simp)) ?_
    intro w1 h1
    have h3 : Only (fun _ => False) w w1 := Only.trans (by simp) (h1.only (fun _ _ _ h => absurd h (by simp)))
    have H1 := hid h3
    have k1 := (h3.cell (o := 1) hsl (fun h => h)).trans c1
    have k2 := (h3.cell (o := 2) hsl (fun h => h)).trans c2
    have kf1 := (h3.frozen (o := 1) hsl (fun h => h)).trans f1
    clear h1 h3 hS0
    have hS0 : (fun w' : World => w'.cell? ⟨s, 1, none⟩ = some (.slice A nb cap) ∧ w'.cell? ⟨s, 2, none⟩ = some (.int .i64 (nb : Nat))) w1 := ⟨k1, k2⟩
    refine hK _ _ hS0 ?_
    clear hK K'
    try simp only [Act.put, List.setIfInBounds_toArray, List.set_cons_zero, List.set_cons_succ]
    refine AhdI.take (i := 19) (v := ?_) OK.out (by simp only [List.getElem?_toArray, List.getElem?_cons_succ, List.getElem?_cons_zero]; rfl) (by simp) (by kernel_rfl) (by kernel_rfl) (by exact fun _ _ _ h => h) (by assumption) (Or.inl ⟨by rfl, ?_⟩) ?_
    rotate_left 1
    · intro w hSw
      obtain ⟨hS1, hS2⟩ := hSw
      go_simp
      try with_reducible rfl
    try simp only [Act.put, List.setIfInBounds_toArray, List.set_cons_zero, List.set_cons_succ]
    refine AhdI.done (by kernel_rfl) ?_
    simp only [List.drop_succ_cons, List.drop_zero]
    all_goals go_wp2_with fail
    all_goals go_meet
    all_goals
      refine ⟨w1, H1.out, ?_⟩
      first
        | rfl
        | (have hce : cap = nb := by assumption
           rw [hce])
  case rest =>
    obtain ⟨w1, h1, rfl⟩ := hcut
    have hs1 := HS.out.only h1 (fun _ _ h => h)
    have hsl1 := hs1.lt s hs1.fs
    have k2 := hs1.c2
    have kf2 := hs1.f2
    have hfr := hs1.front (w1 := w1) (by rw [List.drop_eq_nil_of_le (by rw [HB.out]; exact Nat.le_refl _)]; exact Or.inl ⟨rfl, rfl⟩)
    rw [List.drop_eq_nil_of_le (by rw [HB.out]; exact Nat.le_refl _)] at hfr
    obtain ⟨hsrc, hon⟩ := hfr
    have hon2 : Only F w _ := (h1.mono fun _ _ h => h.elim).trans hon
    have hv2 := (hv.only h1 (fun h => h)).only hon hF0
    clear h1 hs1 hon
    go_wp2
    generalize hW : (w1.setCell ⟨s, 1, none⟩ (.slice A 0 cap)).setCell ⟨s, 2, none⟩ (.int .i64 0) = w2 at hsrc hon2 hv2 ⊢
    have HS2 := hid hsrc
    have HO2 := hid hon2
    have HV2 := hid hv2
    clear hsrc hon2 hv2 hW c1 c2 c4 f1 f2 k2 kf2
    go_loopg [4] 1 (fun m v4 wr => (m = 1 ∧ ∃ A cap, Hid (Src wr F s (.slice A 0 cap) 0 [] []) ∧ Hid (Only F w wr) ∧ Hid (EofAt wr (.iface 225 (.pointer (some q))))) ∨ (m = 0 ∧ Hid (EndAt wr s (.iface 225 (.pointer (some q)))) ∧ Hid (Only F w wr)))
    case atStart => exact Or.inl ⟨rfl, A, cap, HS2, HO2, HV2⟩
    case round =>
      rcases hrel with ⟨rfl, A', cap', HSR, HO, HV⟩ | ⟨rfl, HE, HO⟩
      · have hcb : cap' ≤ 4398046511104 := HSR.out.cap _ _ _ rfl
        have c1 := HSR.out.c1
        have c3 := HSR.out.c3
        have c4 := HSR.out.c4
        have f1 := HSR.out.f1
        have f4 := HSR.out.f4
        have hw4 : IntKind.i64.wrap (cap' : Int) = (cap' : Int) := IntWalk.i64_in _ (by omega)
        have hw5 : IntKind.i64.wrap (2 * (cap' : Int)) = 2 * (cap' : Int) := IntWalk.i64_in _ (by omega)
        have hw6 : IntKind.i64.wrap (2 * (cap' : Int) + 64) = 2 * (cap' : Int) + 64 := IntWalk.i64_in _ (by omega)
        by_cases hg : cap' < 64
        · have hd4 : decide ((cap' : Int) < 64) = true := by simp; omega
          go_wp2
          go_quiet (fail)
          have hs3 : Src (wr.drewN nq) F s _ 0 [] [] := HSR.out.only (Only.drewN (Only.refl (fun _ => False) _) _) (fun _ _ h => h)
          have ho3 : Only F w (wr.drewN nq) := HO.out.drewN nq
          have hv3 : EofAt (wr.drewN nq) (.iface 225 (.pointer (some q))) := HV.out.only (Only.drewN (Only.refl (fun _ => False) _) _) (fun h => h)
          generalize wr.drewN nq = w3 at hs3 ho3 hv3 ⊢
          have c1 := hs3.c1
          have c3 := hs3.c3
          have f1 := hs3.f1
          have HS3 := hid hs3
          have HO3 := hid ho3
          have HV3 := hid hv3
          have hsl3 := hs3.lt s hs3.fs
          clear hs3 ho3 hv3
          have hmk : ∀ w : World, (Instr.makeSlice 29 (.int .i64 0) (.int .i64 (2 * (cap' : Int) + 64))).run Tryz.prog w = .ok (.slice (some ⟨w.heap.size, 0, none⟩) 0 (2 * cap' + 64)) (w.alloc (.cells (madeCells #[.int .u8 0] (2 * cap' + 64)) 5)) := fun w => (by
            have := run_make_bytes w 0 (2 * cap' + 64) (by omega) (by omega)
            have e : ((2 * cap' + 64 : Nat) : Int) = 2 * (cap' : Int) + 64 := by omega
            rwa [e] at this)
          go_wp2
          go_region_held3 (fun w' => w'.cell? ⟨s, 1, none⟩ = some (.slice A' 0 cap') ∧ w'.cell? ⟨s, 3, none⟩ = some (.int .i64 64)) (go_keep)
            (fail)
          clear hmk
          generalize hw4e : (w3.alloc (.cells (madeCells #[.int .u8 0] (2 * cap' + 64)) 5)).drew = w4
          have hms := make_src HS3.out rfl (by omega) hw4e.symm (Nat.zero_le _)
          have ho4 : Only (fun _ => False) w3 w4 := by rw [← hw4e]; simp
          have HM1 := hid hms.1
          have HM2 := hid hms.2
          have c1 := (ho4.cell (o := 1) hsl3 (fun h => h)).trans c1
          clear hms ho4 hw4e
          go_wp2_with (refine copy_gen (o := ⟨some 101, _, _, _, _, _⟩) rfl (.tmp 96) (.tmp 100) rfl _ _ _ _ _ _ rfl rfl [] rfl HM1.out ?_; intro w5 h5; have h6 := HM2.out _ h5; have k1 := (h6.1.cell (o := 1) hsl3 (fun h => h)).trans HS3.out.c1; have kf1 := (h6.1.frozen (o := 1) hsl3 (fun h => h)).trans f1; have H6 := hid h6; clear h5 h6)
          obtain ⟨h6, h7⟩ := H6.out
          have hgr := Src.grow HS3.out h6 h7 (Nat.le_refl _) (by omega)
          have ho6 : Only F w _ := HO3.out.trans hgr.2
          have hv6 := HV3.out.only hgr.2 hF0
          have hs6 := hgr.1
          go_wp2
          have hc9 : 64 ≤ 2 * cap' + 64 := by omega
          have HFSF := HS3.out.fs
          generalize w5.setCell ⟨s, 1, none⟩ (.slice (some ⟨w3.heap.size, 0, none⟩) 0 (2 * cap' + 64)) = w9 at hs6 ho6 hv6 ⊢
          generalize (fun k => F k ∨ k = w3.heap.size) = F9 at hs6
          generalize w3.heap.size = g9 at hs6
          generalize 2 * cap' + 64 = c9 at hs6 hc9
          have HS9 := hid hs6
          have HO9 := hid ho6
          have HV9 := hid hv6
          clear h6 h7 hgr hs6 ho6 hv6 H6 HM1 HM2 k1 kf1 c1 c3 f1
          obtain ⟨d, E, c0, e1, -⟩ := HS9.out.c0
          have hdl := e1.lt
          obtain ⟨⟨D, dcap, cd, -⟩, -, -⟩ := e1
          have hci : (64 : Int) ≤ (c9 : Int) := by omega
          have hw7 : IntKind.i64.wrap 64 = 64 := by decide
          have hw8 : IntKind.i64.wrap 0 = 0 := by decide
          have hw9 : IntKind.i64.wrap (0 + 64) = 0 + 64 := by decide
          have hci5 : (0 : Int) ≤ 64 := by decide
          have hci1 : ¬ c9 = 0 := by omega
          have hci2 : ¬ 0 = c9 := by omega
          have hci3 : ¬ (c9 : Int) < 64 := by omega
          have hci4 : 0 < c9 := by omega
          have hcb9 : c9 ≤ 4398046511104 := HS9.out.cap _ _ _ rfl
          have c1 := HS9.out.c1
          have c2 := HS9.out.c2
          have c3 := HS9.out.c3
          have c4 := HS9.out.c4
          have f1 := HS9.out.f1
          have f4 := HS9.out.f4
          have hsl9 := HS9.out.lt s HS9.out.fs
          have hfs := HS9.out.fs
          have HFS := hid hfs
          have HRD := hid (fun (w' : World) (h : Only (fun _ => False) w9 w') (p : Value) => dropsEnd d dcap D p _ w' ((h.cell hdl (fun h => h)).trans cd) (HV9.out.only h (fun h => h)))
          clear cd hdl hfs
          go_region_held3 (fun w' => w'.cell? ⟨s, 0, none⟩ = some (.iface 65 (.pointer (some ⟨d, 0, none⟩))) ∧ w'.cell? ⟨s, 1, none⟩ = some (.slice (some ⟨g9, 0, none⟩) 0 c9) ∧ w'.cell? ⟨s, 3, none⟩ = some (.int .i64 64)) (go_keep)
            (first
              | (go_at_call 199; refine (HRD.out _ (by simp) _).mono ?_; rintro e w10 ⟨rfl, h3⟩; have h3' : Only (fun _ => False) w9 w10 := ((Only.drew (Only.refl _ _)).trans h3); have k0 := (h3'.cell (o := 0) hsl9 (fun h => h)).trans c0; have k1 := (h3'.cell (o := 1) hsl9 (fun h => h)).trans c1; have k2 := (h3'.cell (o := 2) hsl9 (fun h => h)).trans c2; have k3 := (h3'.cell (o := 3) hsl9 (fun h => h)).trans c3; have kf1 := (h3'.frozen (o := 1) hsl9 (fun h => h)).trans f1; have kf4 := (h3'.frozen (o := 4) hsl9 (fun h => h)).trans f4; have k4 := (h3'.cell (o := 4) hsl9 (fun h => h)).trans c4; have H3 := hid h3'; clear h3 h3'))
          go_wp2
          all_goals
            go_roundg 0
            case measure => omega
            case rel =>
              refine Or.inr ⟨rfl, hid ⟨⟨some ⟨g9, 0, none⟩, c9, by go_simp⟩, by go_simp, by go_simp⟩, hid (HO9.out.trans' (Only.setCell (S := fun k => k = s) (p := ⟨s, 4, none⟩) (Only.setCell (S := fun k => k = s) (p := ⟨s, 1, none⟩) (H3.out.mono fun _ _ h => h.elim) (fun _ => rfl) _) (fun _ => rfl) _) (fun i hi h => by have h : i = s := h; exact h ▸ HFSF))⟩
        · have hd4 : decide ((cap' : Int) < 64) = false := by simp; omega
          go_wp2
          go_quiet (fail)
          have hs3 : Src (wr.drewN nq) F s _ 0 [] [] := HSR.out.only (Only.drewN (Only.refl (fun _ => False) _) _) (fun _ _ h => h)
          have ho3 : Only F w (wr.drewN nq) := HO.out.drewN nq
          have hv3 : EofAt (wr.drewN nq) (.iface 225 (.pointer (some q))) := HV.out.only (Only.drewN (Only.refl (fun _ => False) _) _) (fun h => h)
          go_wp2
          have hc9 : 64 ≤ cap' := by omega
          obtain ⟨g9, cur, rfl, -⟩ := hs3.row.cur (by omega)
          obtain ⟨c9, hc9e⟩ : ∃ c9, c9 = cap' := ⟨_, rfl⟩
          rw [← hc9e] at hs3 hc9
          clear hc9e
          have HFSF := hs3.fs
          generalize wr.drewN nq = w9 at hs3 ho3 hv3 ⊢
          have HS9 := hid hs3
          have HO9 := hid ho3
          have HV9 := hid hv3
          clear hs3 ho3 hv3 c1 c3
          obtain ⟨d, E, c0, e1, -⟩ := HS9.out.c0
          have hdl := e1.lt
          obtain ⟨⟨D, dcap, cd, -⟩, -, -⟩ := e1
          have hci : (64 : Int) ≤ (c9 : Int) := by omega
          have hw7 : IntKind.i64.wrap 64 = 64 := by decide
          have hw8 : IntKind.i64.wrap 0 = 0 := by decide
          have hw9 : IntKind.i64.wrap (0 + 64) = 0 + 64 := by decide
          have hci5 : (0 : Int) ≤ 64 := by decide
          have hci1 : ¬ c9 = 0 := by omega
          have hci2 : ¬ 0 = c9 := by omega
          have hci3 : ¬ (c9 : Int) < 64 := by omega
          have hci4 : 0 < c9 := by omega
          have hcb9 : c9 ≤ 4398046511104 := HS9.out.cap _ _ _ rfl
          have c1 := HS9.out.c1
          have c2 := HS9.out.c2
          have c3 := HS9.out.c3
          have c4 := HS9.out.c4
          have f1 := HS9.out.f1
          have f4 := HS9.out.f4
          have hsl9 := HS9.out.lt s HS9.out.fs
          have hfs := HS9.out.fs
          have HFS := hid hfs
          have HRD := hid (fun (w' : World) (h : Only (fun _ => False) w9 w') (p : Value) => dropsEnd d dcap D p _ w' ((h.cell hdl (fun h => h)).trans cd) (HV9.out.only h (fun h => h)))
          clear cd hdl hfs
          go_region_held3 (fun w' => w'.cell? ⟨s, 0, none⟩ = some (.iface 65 (.pointer (some ⟨d, 0, none⟩))) ∧ w'.cell? ⟨s, 1, none⟩ = some (.slice (some ⟨g9, 0, none⟩) 0 c9) ∧ w'.cell? ⟨s, 3, none⟩ = some (.int .i64 64)) (go_keep)
            (first
              | (go_at_call 199; refine (HRD.out _ (by simp) _).mono ?_; rintro e w10 ⟨rfl, h3⟩; have h3' : Only (fun _ => False) w9 w10 := ((Only.drew (Only.refl _ _)).trans h3); have k0 := (h3'.cell (o := 0) hsl9 (fun h => h)).trans c0; have k1 := (h3'.cell (o := 1) hsl9 (fun h => h)).trans c1; have k2 := (h3'.cell (o := 2) hsl9 (fun h => h)).trans c2; have k3 := (h3'.cell (o := 3) hsl9 (fun h => h)).trans c3; have kf1 := (h3'.frozen (o := 1) hsl9 (fun h => h)).trans f1; have kf4 := (h3'.frozen (o := 4) hsl9 (fun h => h)).trans f4; have k4 := (h3'.cell (o := 4) hsl9 (fun h => h)).trans c4; have H3 := hid h3'; clear h3 h3'))
          go_wp2
          all_goals
            go_roundg 0
            case measure => omega
            case rel =>
              refine Or.inr ⟨rfl, hid ⟨⟨some ⟨g9, 0, none⟩, c9, by go_simp⟩, by go_simp, by go_simp⟩, hid (HO9.out.trans' (Only.setCell (S := fun k => k = s) (p := ⟨s, 4, none⟩) (Only.setCell (S := fun k => k = s) (p := ⟨s, 1, none⟩) (H3.out.mono fun _ _ h => h.elim) (fun _ => rfl) _) (fun _ => rfl) _) (fun i hi h => by have h : i = s := h; exact h ▸ HFSF))⟩
      · obtain ⟨⟨A', cap', c1⟩, c2, c4⟩ := HE.out
        go_wp2
        go_end0
        exact ⟨rfl, HE.out, HO.out⟩
end Go.Proofs.YtbgckolcimlofaaGreatDoor
