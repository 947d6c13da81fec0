/-
  The loop over the items when a value is written; under the value predicate.
  PutPack of one kind after another; under the value predicate.
  PutPack, the whole: it writes the bytes of the value; for values that fit.
-/
import Derived.Test.YtbgckolcimlofaaGreatDoorProg
import Derived.Test.YtbgckolcimlofaaGreatDoorT16
import Derived.Deep.QuietTactic
import Derived.BigQuiet
import Derived.Deep.LoopGhost
import Derived.Deep.DeepCutAuto
import Derived.Handy
import Derived.StillTailTactics
import Derived.Deep.RegionHeld3
set_option linter.unusedVariables false
set_option linter.unusedSimpArgs false
namespace Go.Proofs.YtbgckolcimlofaaGreatDoor
open Go.RowKit YtbgckolcimlofaaGreatDoorPj

set_option maxRecDepth 100000 in
set_option maxHeartbeats 1000000 in
theorem putPack_0 (p : P) (cs : List Value) (B f : Nat) (w : World) (h : IsPack w B p cs) (hff : FormsAt w f) (hp : PNode p) (hk : p.kind = 0) :
    Calls Tryz.prog 10 #[.agg cs.toArray, .pointer (some ⟨f, 0, none⟩)] w (PutPost f p w) := by
  obtain ⟨A, cap, rfl, hlen, hks⟩ := h.open
  have HP := hid hp
  have HFF := hid hff
  have HK := hid hk
  rw [hk]
  clear h hp hks hff hk
  generalize hL : p.kids.length = L at hlen ⊢
  have HL := hid hL
  clear hL
  go_enter Tryz.func10, Tryz.ntmps10
  go_wp2
  go_ret
  refine leaf_post (v := .slice (some ⟨w.heap.size + 1, 0, none⟩) 1 1) HP.out (by have := HP.out.kids; have := HK.out; omega) (row_one_at _ _ 192 _ _ (by simp) (by decide) (by simp)) (Or.inl ⟨HK.out, rfl⟩) (by simp) (HFF.out.only (Only.alloc (Only.alloc (Only.refl (fun _ => False) _) _) _) (fun h => h))

set_option maxRecDepth 100000 in
set_option maxHeartbeats 1000000 in
theorem putPack_1 (p : P) (cs : List Value) (B f : Nat) (w : World) (h : IsPack w B p cs) (hff : FormsAt w f) (hp : PNode p) (hk : p.kind = 1) :
    Calls Tryz.prog 10 #[.agg cs.toArray, .pointer (some ⟨f, 0, none⟩)] w (PutPost f p w) := by
  obtain ⟨A, cap, rfl, hlen, hks⟩ := h.open
  have HN := hid h.nums
  have hn0 : 0 ≤ p.num := HN.out.1
  have hn1 : p.num ≤ 1 := hp.bool hk
  have HP := hid hp
  have HFF := hid hff
  have HK := hid hk
  rw [hk]
  clear h hp hks hff hk
  generalize hL : p.kids.length = L at hlen ⊢
  have HL := hid hL
  clear hL
  go_enter Tryz.func10, Tryz.ntmps10
  go_wp2
  go_ret
  refine leaf_post (v := .slice (some ⟨w.heap.size + 1, 0, none⟩) 1 1) HP.out (by have := HP.out.kids; have := HK.out; omega) (row_one_at _ _ (194 + p.num.toNat) _ _ (by simp) (by simp; omega) (by simp)) (Or.inr (Or.inl ⟨HK.out, rfl⟩)) (by simp) (HFF.out.only (Only.alloc (Only.alloc (Only.refl (fun _ => False) _) _) _) (fun h => h))

set_option maxRecDepth 100000 in
set_option maxHeartbeats 1000000 in
theorem putPack_i (p : P) (cs : List Value) (B f : Nat) (w : World) (h : IsPack w B p cs) (hff : FormsAt w f) (hp : PNode p) (hk : p.kind = 2 ∨ p.kind = 3) :
    Calls Tryz.prog 10 #[.agg cs.toArray, .pointer (some ⟨f, 0, none⟩)] w (PutPost f p w) := by
  obtain ⟨A, cap, rfl, hlen, hks⟩ := h.open
  have HN := hid h.nums
  have HP := hid hp
  have HFF := hid hff
  have HK := hid hk
  have HH := hid (show p.num = ((p.num.toNat : Nat) : Int) by have := HN.out.1; omega)
  have hu : p.num.toNat < 18446744073709551616 := by have := HN.out; omega
  rw [HH.out]
  clear h hp hks hff
  generalize hL : p.kids.length = L at hlen ⊢
  have HL := hid hL
  clear hL
  rcases hk with hk | hk
  · by_cases hneg : 9223372036854775808 ≤ p.num.toNat
    · rw [hk]
      have HK2 := hid hk
      clear hk
      generalize hU : p.num.toNat = u at *
      have HU := hid hU
      clear hU
      go_enter Tryz.func10, Tryz.ntmps10
      go_wp2_with (go_at_call 19; refine (putInt_neg f u _ (HFF.out.only (Only.alloc (Only.refl (fun _ => False) _) _) (fun h => h)) hu hneg).mono ?_; rintro e w1 ⟨v, bs, rfl, h1, h2, h3, h4⟩; have H1 := hid h1; have H2 := hid h2; have H3 := hid h3; have H4 := hid h4; clear h1 h2 h3 h4)
      go_ret
      refine leaf_post HP.out (by have := HP.out.kids; have := HK2.out; omega) (H1.out.base fun k e => ?_) (Or.inr (Or.inr (Or.inl ⟨⟨HK2.out, by have := HH.out; omega⟩, by rw [HU.out]; exact H2.out⟩))) (Only.trans (by simp) H3.out) H4.out
      have := (H1.out.block e).1
      simp at this
      omega
    · rw [hk]
      have HK2 := hid hk
      clear hk
      generalize hU : p.num.toNat = u at *
      have HU := hid hU
      clear hU
      go_enter Tryz.func10, Tryz.ntmps10
      go_wp2_with (go_at_call 19; refine (putInt_pos f u _ (HFF.out.only (Only.alloc (Only.refl (fun _ => False) _) _) (fun h => h)) (by omega)).mono ?_; rintro e w1 ⟨v, bs, rfl, h1, h2, h3, h4⟩; have H1 := hid h1; have H2 := hid h2; have H3 := hid h3; have H4 := hid h4; clear h1 h2 h3 h4)
      go_ret
      refine leaf_post HP.out (by have := HP.out.kids; have := HK2.out; omega) (H1.out.base fun k e => ?_) (Or.inr (Or.inr (Or.inr (Or.inl ⟨Or.inl ⟨HK2.out, by have := HH.out; omega⟩, by rw [HU.out]; exact H2.out⟩)))) (Only.trans (by simp) H3.out) H4.out
      have := (H1.out.block e).1
      simp at this
      omega
  · rw [hk]
    have HK2 := hid hk
    clear hk
    generalize hU : p.num.toNat = u at *
    have HU := hid hU
    clear hU
    go_enter Tryz.func10, Tryz.ntmps10
    go_wp2_with (go_at_call 19; refine (putInt_any f u _ (HFF.out.only (Only.alloc (Only.refl (fun _ => False) _) _) (fun h => h)) (by omega)).mono ?_; rintro e w1 ⟨v, bs, rfl, h1, h2, h3, h4⟩; have H1 := hid h1; have H2 := hid h2; have H3 := hid h3; have H4 := hid h4; clear h1 h2 h3 h4)
    go_ret
    refine leaf_post HP.out (by have := HP.out.kids; have := HK2.out; omega) (H1.out.base fun k e => ?_) (Or.inr (Or.inr (Or.inr (Or.inl ⟨Or.inr HK2.out, by rw [HU.out]; exact H2.out⟩)))) (Only.trans (by simp) H3.out) H4.out
    have := (H1.out.block e).1
    simp at this
    omega
end Go.Proofs.YtbgckolcimlofaaGreatDoor
namespace Go.Proofs.YtbgckolcimlofaaGreatDoor
open Go.RowKit YtbgckolcimlofaaGreatDoorPj


set_option maxRecDepth 100000 in
set_option maxHeartbeats 2000000 in
theorem putPack_6 (p : P) (cs : List Value) (B f : Nat) (w : World) (h : IsPack w B p cs) (hff : FormsAt w f) (hp : PNode p) (hk : p.kind = 6) :
    Calls Tryz.prog 10 #[.agg cs.toArray, .pointer (some ⟨f, 0, none⟩)] w (PutPost f p w) := by
  obtain ⟨A, cap, rfl, hlen, hks⟩ := h.open
  have hsz : p.text.size ≤ 131072 := hp.short
  have HP := hid hp
  have HFF := hid hff
  have HK := hid hk
  rw [hk]
  clear h hp hks hff hk
  generalize hL : p.kids.length = L at hlen ⊢
  have HL := hid hL
  clear hL
  generalize hT : p.text = t at hsz ⊢
  have HT := hid hT
  clear hT
  go_enter Tryz.func10, Tryz.ntmps10
  go_wp2
  generalize hw2 : World.alloc w _ = w2
  have c2 : w2.cell? ⟨w.heap.size, 2, none⟩ = some (.string t) := by rw [← hw2]; clear hw2; go_simp
  have HO : Hid (Only (fun _ => False) w w2) := hid (by rw [← hw2]; clear hw2; simp)
  have hs2 : w2.heap.size = w.heap.size + 1 := by rw [← hw2]; clear hw2; simp
  have HS2 := hid hs2
  have n2 := World.new_ne w2 _ c2
  clear hw2
  have hlt2 : w.heap.size < w2.heap.size := by omega
  clear hs2
  have hfw := HFF.out.lt
  go_region_held3 (fun w' => w'.cell? ⟨w.heap.size, 2, none⟩ = some (.string t)) (go_keep)
    (first
      | (go_at_call 21; refine (putHead_any f 160 32 t.size (some ⟨_, 0, none⟩) 3 fsText _ (HFF.out.only (HO.out.trans (Only.drew (Only.alloc (Only.refl (fun _ => False) _) _))) (fun h => h)) (by decide) or_160 (by omega) (by decide) (by decide) ((FsAt.new3 _ _ 217 1 218 2 219 4).only (Only.drew (Only.refl (fun _ => False) _)) (fun _ _ _ h => h)) fs_ok.1 ⟨(219, 4), by decide, holds4 (by omega)⟩).mono ?_; rintro e w3 ⟨v, bs, rfl, h1, h2, h3, h4⟩; have hq : Only (fun k => k = f) w2 w3 := (((Only.drew (Only.alloc (Only.refl _ _) _)).trans h3)); have k2 := (hq.cell hlt2 (show ¬ w.heap.size = f by omega)).trans c2; have HNE : Hid (∀ k, v.ownBlock = some k → w.heap.size < k) := hid (fun k e => by have := (h1.block e).1; simp at this; omega); have HQ := hid hq; have hqs := hq.size; have H1 := hid (h1.base (B' := w.heap.size) fun k e => by have := (h1.block e).1; simp at this; omega); have hl := (Head.len h2 (fun f hf => (fs_ok.1 f hf).2.1)).2; have H2 := hid h2; have H4 := hid h4; clear h1 h2 h3 h4 hq)
      | (refine step_row_append_str rfl _ _ rfl w.heap.size _ _ rfl H1.out t rfl (by omega) (by omega) ?_; intro v' w4 r1 r2; have hg : Only (fun k => k = f) w w4 := (((HO.out.mono fun _ _ h => h.elim).trans HQ.out).grown r2 (fun k e hk => by have := (H1.out.block e).1; omega)); have q2 := ((Only.of_grown r2).cell (b := w.heap.size) (o := 2) (by omega) (fun e => by have := HNE.out _ e; omega)).trans k2; have R1 := hid r1; have R2 := hid hg; have R3 := hid (H4.out.only (Only.of_grown r2) (fun e => by have := (H1.out.block e).1; omega)); clear r1 r2 hg))
  all_goals go_wp2
  all_goals
    go_ret
    exact leaf_post HP.out (by have := HP.out.kids; have := HK.out; omega) R1.out (Or.inr (Or.inr (Or.inr (Or.inr (Or.inl ⟨HK.out, _, (by rw [HT.out]; exact H2.out), by rw [HT.out]⟩))))) R2.out R3.out

set_option maxRecDepth 100000 in
set_option maxHeartbeats 2000000 in
theorem putPack_7 (p : P) (cs : List Value) (B f : Nat) (w : World) (h : IsPack w B p cs) (hff : FormsAt w f) (hp : PNode p) (hk : p.kind = 7) :
    Calls Tryz.prog 10 #[.agg cs.toArray, .pointer (some ⟨f, 0, none⟩)] w (PutPost f p w) := by
  obtain ⟨A, cap, rfl, hlen, hks⟩ := h.open
  have hsz : p.text.size ≤ 131072 := hp.short
  have HP := hid hp
  have HFF := hid hff
  have HK := hid hk
  rw [hk]
  clear h hp hks hff hk
  generalize hL : p.kids.length = L at hlen ⊢
  have HL := hid hL
  clear hL
  generalize hT : p.text = t at hsz ⊢
  have HT := hid hT
  clear hT
  go_enter Tryz.func10, Tryz.ntmps10
  go_wp2
  generalize hw2 : World.alloc w _ = w2
  have c2 : w2.cell? ⟨w.heap.size, 2, none⟩ = some (.string t) := by rw [← hw2]; clear hw2; go_simp
  have HO : Hid (Only (fun _ => False) w w2) := hid (by rw [← hw2]; clear hw2; simp)
  have hs2 : w2.heap.size = w.heap.size + 1 := by rw [← hw2]; clear hw2; simp
  have HS2 := hid hs2
  have n2 := World.new_ne w2 _ c2
  clear hw2
  have hlt2 : w.heap.size < w2.heap.size := by omega
  clear hs2
  have hfw := HFF.out.lt
  go_region_held3 (fun w' => w'.cell? ⟨w.heap.size, 2, none⟩ = some (.string t)) (go_keep)
    (first
      | (go_at_call 21; refine (putHead_var f (-1) 0 t.size (some ⟨_, 0, none⟩) 3 fsBin _ (HFF.out.only (HO.out.trans (Only.drew (Only.alloc (Only.refl (fun _ => False) _) _))) (fun h => h)) (Or.inl (by decide)) (by decide) (by omega) (by decide) (by decide) ((FsAt.new3 _ _ 196 1 197 2 198 4).only (Only.drew (Only.refl (fun _ => False) _)) (fun _ _ _ h => h)) fs_ok.2.1 ⟨(198, 4), by decide, holds4 (by omega)⟩).mono ?_; rintro e w3 ⟨v, bs, rfl, h1, h2, h3, h4⟩; have hq : Only (fun k => k = f) w2 w3 := (((Only.drew (Only.alloc (Only.refl _ _) _)).trans h3)); have k2 := (hq.cell hlt2 (show ¬ w.heap.size = f by omega)).trans c2; have HNE : Hid (∀ k, v.ownBlock = some k → w.heap.size < k) := hid (fun k e => by have := (h1.block e).1; simp at this; omega); have HQ := hid hq; have hqs := hq.size; have H1 := hid (h1.base (B' := w.heap.size) fun k e => by have := (h1.block e).1; simp at this; omega); have hl := (Head.len h2 (fun f hf => (fs_ok.2.1 f hf).2.1)).2; have H2 := hid h2; have H4 := hid h4; clear h1 h2 h3 h4 hq)
      | (refine step_row_append_str rfl _ _ rfl w.heap.size _ _ rfl H1.out t rfl (by omega) (by omega) ?_; intro v' w4 r1 r2; have hg : Only (fun k => k = f) w w4 := (((HO.out.mono fun _ _ h => h.elim).trans HQ.out).grown r2 (fun k e hk => by have := (H1.out.block e).1; omega)); have q2 := ((Only.of_grown r2).cell (b := w.heap.size) (o := 2) (by omega) (fun e => by have := HNE.out _ e; omega)).trans k2; have R1 := hid r1; have R2 := hid hg; have R3 := hid (H4.out.only (Only.of_grown r2) (fun e => by have := (H1.out.block e).1; omega)); clear r1 r2 hg))
  all_goals go_wp2
  all_goals
    go_ret
    exact leaf_post HP.out (by have := HP.out.kids; have := HK.out; omega) R1.out (Or.inr (Or.inr (Or.inr (Or.inr (Or.inr (Or.inl ⟨HK.out, _, (by rw [HT.out]; exact H2.out), by rw [HT.out]⟩)))))) R2.out R3.out
end Go.Proofs.YtbgckolcimlofaaGreatDoor
namespace Go.Proofs.YtbgckolcimlofaaGreatDoor
open Go.RowKit YtbgckolcimlofaaGreatDoorPj


theorem FsAt.new2_at (w : World) (t : TypeId) (g : Nat) (hg : w.heap.size = g) (c0 s0 c1 s1 : Nat) : FsAt (w.alloc (.cells #[.int .i64 (c0 : Nat), .int .i64 (s0 : Nat), .int .i64 (c1 : Nat), .int .i64 (s1 : Nat)] t)) (some ⟨g, 0, none⟩) [(c0, s0), (c1, s1)] := by
  subst hg
  exact FsAt.new2 w t c0 s0 c1 s1

set_option maxRecDepth 100000 in
set_option maxHeartbeats 4000000 in
theorem putPack_8 (p : P) (cs : List Value) (B f : Nat) (w : World) (ih : PutIH B f p.kids) (h : IsPack w B p cs) (hff : FormsAt w f) (hB : B ≤ w.heap.size) (hBf : B ≤ f) (hp : PNode p) (hcnt : cnt p ≤ 4000) (hk : p.kind = 8) :
    Calls Tryz.prog 10 #[.agg cs.toArray, .pointer (some ⟨f, 0, none⟩)] w (PutPost f p w) := by
  have IH := hid ih
  obtain ⟨A, cap, rfl, hlen, hks⟩ := h.open
  have hfew : p.kids.length ≤ 2000 := hp.few
  have HP := hid hp
  have HFF := hid hff
  have HK := hid hk
  have HKs := hid hks
  have hce := cnt_eq p
  have HCE := hid hce
  have HCN := hid hcnt
  rw [hk]
  clear h hp hks hff hk ih hce hcnt
  generalize hL : p.kids.length = L at hlen hfew ⊢
  have HL := hid hL
  clear hL
  have hfw := HFF.out.lt
  go_enter Tryz.func10, Tryz.ntmps10
  go_wp2_with (go_at_call 21; refine (putHead_any f 144 16 L (some ⟨w.heap.size + 1, 0, none⟩) 2 fsArr _ (HFF.out.only (Only.alloc (Only.alloc (Only.refl (fun _ => False) _) _) _) (fun h => h)) (by decide) or_144 (by omega) (by decide) (by decide) (FsAt.new2_at _ _ (w.heap.size + 1) (by simp) 220 2 221 4) fs_ok.2.2.1 ⟨(221, 4), by decide, holds4 (by omega)⟩).mono ?_; rintro e w1 ⟨v, bs, rfl, h1, h2, h3, h4⟩; have HQ : Hid (Only (fun k => k = f) w w1) := hid (Only.trans (by simp) h3); have H1 := hid (h1.base (B' := w.heap.size) fun k e => by have := (h1.block e).1; simp at this; omega); have hl := (Head.len h2 (fun f hf => (fs_ok.2.2.1 f hf).2.1)).2; have k4 : w1.cell? ⟨w.heap.size, 4, none⟩ = some (.slice A L cap) := ((h3.cell (by simp; omega) (show ¬ w.heap.size = f by omega)).trans (by go_simp)); have H2 := hid h2; have H4 := hid h4; clear h1 h2 h3 h4)
  go_loopg [5, 106] L (fun m v5 v106 wr => ∃ (j : Nat) (bss : List (List UInt8)), j + m = L ∧ v106 = .int .i64 (j : Nat) ∧ Row wr w.heap.size v5 (bs ++ bss.flatten) ∧ Hid (EncK p.kids j bss) ∧ bss.flatten.length ≤ cntAll (p.kids.take j) * 200000 ∧ Hid (Only (fun k => k = f) w wr) ∧ Hid (FormsAt wr f))
  case atStart =>
    refine ⟨0, [], by omega, rfl, ?_, hid (EncK.nil _), by simp, HQ, H4⟩
    rw [List.flatten_nil, List.append_nil]
    exact H1.out
  case round =>
    obtain ⟨j, bss, hj, rfl, hown, HE, hbl, HO, HF⟩ := hrel
    have hws := HO.out.size
    have hle := cntAll_take_le p.kids j
    have hbig : (bs ++ bss.flatten).length ≤ 900000000 := by
      have := HCE.out
      have := HCN.out
      rw [List.length_append]
      omega
    by_cases hlt : j < L
    · have hlt1 : j < p.kids.length := by have := HL.out; omega
      obtain ⟨b, off, A', cap', rfl, hb, c0, c1, c2, c3, c4, hpk⟩ := HKs.out j hlt1
      have hne : ∀ k, k < B → ¬ k = f := fun k hk => by omega
      have hbw : b < w.heap.size := by omega
      have d0 := (HO.out.cell (o := off + j * 5) hbw (hne b hb)).trans c0
      have d1 := (HO.out.cell (o := off + j * 5 + 1) hbw (hne b hb)).trans c1
      have d2 := (HO.out.cell (o := off + j * 5 + 2) hbw (hne b hb)).trans c2
      have d3 := (HO.out.cell (o := off + j * 5 + 3) hbw (hne b hb)).trans c3
      have d4 := (HO.out.cell (o := off + j * 5 + 4) hbw (hne b hb)).trans c4
      have hp' := hid (hpk.only HO.out (by omega) hne)
      have HX := hid (cntAll_take p.kids j hlt1)
      have hle2 := cntAll_take_le p.kids (j + 1)
      clear c0 c1 c2 c3 c4 hne hpk
      go_wp2_with (first
        | (go_at_call 10; refine (IH.out j hlt1 _ _ (hp'.out.only (Only.alloc (Only.refl (fun _ => False) _) _) (by omega) (fun _ _ h => h)) (HF.out.only (Only.alloc (Only.refl (fun _ => False) _) _) (fun h => h)) (by omega) (by simp; omega)).mono ?_; rintro e w2 ⟨v2, bs2, rfl, r1, r2, r3, r4, r5, r6⟩; have hqs : wr.heap.size < w2.heap.size := (by have := r5.size; simp at this; omega); have HX2 : Hid (Only (fun k => k = f) wr w2) := hid (Only.trans (by simp) r5); have R2 := hid r2; have R4 := hid r4; have R6 := hid r6; obtain ⟨g, cap2, rfl, hg1, hg2, hg3⟩ := r1.ne rfl r3; have R1 := hid r1; have RG := hid hg3; clear r1 r2 r4 r5 r6 hg3)
        | (at_builtin; refine row_append rfl _ _ rfl w.heap.size u5 (bs ++ bss.flatten) rfl (hown.only HX2.out (fun k e hk => by have := (hown.block e).1; have hk : k = f := hk; omega)) _ _ _ bs2 rfl rfl RG.out (by have := R4.out; have := HX.out; have := HCE.out; have := HCN.out; omega) (by omega) ?_; intro v3 w3 s1 s2 s3; have S1 := hid s1; have S2 := hid ((HO.out.trans HX2.out).grown s2 (fun k e hk => by have := (hown.block e).1; omega)); have S3 := hid (R6.out.only (Only.of_grown s2) (fun e => by have := (hown.block e).1; omega)); clear s1 s2 s3))
      go_roundg (gk - 1)
      case measure => omega
      case rel =>
        refine ⟨j + 1, bss ++ [bs2], by omega, by go_num, ?_, hid (HE.out.snoc hlt1 R2.out), ?_, S2, S3⟩
        · rw [flatten_snoc, ← List.append_assoc]
          exact S1.out
        · have := R4.out
          have := HX.out
          rw [flatten_snoc, List.length_append, HX.out]
          omega
    · obtain rfl : j = L := by omega
      go_wp2
      go_ret
      have hfull : cntAll (p.kids.take j) = cntAll p.kids := by rw [List.take_of_length_le (by have := HL.out; omega)]
      have hE := HE.out
      have hhd : Hd p bs := Or.inr (Or.inr (Or.inr (Or.inr (Or.inr (Or.inr (Or.inl ⟨HK.out, by rw [HL.out]; exact H2.out⟩))))))
      refine ⟨u5, _, rfl, hown, Enc.mk p bs bss hhd (by have := hE.1; have := HL.out; omega) hE.2, ?_, ?_, HO.out, HF.out⟩
      · have := (hhd.len HP.out.short).1
        rw [List.length_append]
        omega
      · have := HCE.out
        rw [List.length_append]
        omega

set_option maxRecDepth 100000 in
set_option maxHeartbeats 4000000 in
theorem putPack_9 (p : P) (cs : List Value) (B f : Nat) (w : World) (ih : PutIH B f p.kids) (h : IsPack w B p cs) (hff : FormsAt w f) (hB : B ≤ w.heap.size) (hBf : B ≤ f) (hp : PNode p) (hcnt : cnt p ≤ 4000) (hk : p.kind = 9) :
    Calls Tryz.prog 10 #[.agg cs.toArray, .pointer (some ⟨f, 0, none⟩)] w (PutPost f p w) := by
  have IH := hid ih
  obtain ⟨A, cap, rfl, hlen, hks⟩ := h.open
  have hfew : p.kids.length ≤ 2000 := hp.few
  have HP := hid hp
  have HFF := hid hff
  have HK := hid hk
  have HKs := hid hks
  have hce := cnt_eq p
  have HCE := hid hce
  have HCN := hid hcnt
  rw [hk]
  clear h hp hks hff hk ih hce hcnt
  generalize hL : p.kids.length = L at hlen hfew ⊢
  have HL := hid hL
  clear hL
  have hfw := HFF.out.lt
  go_enter Tryz.func10, Tryz.ntmps10
  go_wp2_with (go_at_call 21; refine (putHead_any f 128 16 (L / 2) (some ⟨w.heap.size + 1, 0, none⟩) 2 fsMap _ (HFF.out.only (Only.alloc (Only.alloc (Only.refl (fun _ => False) _) _) _) (fun h => h)) (by decide) or_128 (by omega) (by decide) (by decide) (FsAt.new2_at _ _ (w.heap.size + 1) (by simp) 222 2 223 4) fs_ok.2.2.2 ⟨(223, 4), by decide, holds4 (by omega)⟩).mono ?_; rintro e w1 ⟨v, bs, rfl, h1, h2, h3, h4⟩; have HQ : Hid (Only (fun k => k = f) w w1) := hid (Only.trans (by simp) h3); have H1 := hid (h1.base (B' := w.heap.size) fun k e => by have := (h1.block e).1; simp at this; omega); have hl := (Head.len h2 (fun f hf => (fs_ok.2.2.2 f hf).2.1)).2; have k4 : w1.cell? ⟨w.heap.size, 4, none⟩ = some (.slice A L cap) := ((h3.cell (by simp; omega) (show ¬ w.heap.size = f by omega)).trans (by go_simp)); have H2 := hid h2; have H4 := hid h4; clear h1 h2 h3 h4)
  go_loopg [5, 106] L (fun m v5 v106 wr => ∃ (j : Nat) (bss : List (List UInt8)), j + m = L ∧ v106 = .int .i64 (j : Nat) ∧ Row wr w.heap.size v5 (bs ++ bss.flatten) ∧ Hid (EncK p.kids j bss) ∧ bss.flatten.length ≤ cntAll (p.kids.take j) * 200000 ∧ Hid (Only (fun k => k = f) w wr) ∧ Hid (FormsAt wr f))
  case atStart =>
    refine ⟨0, [], by omega, rfl, ?_, hid (EncK.nil _), by simp, HQ, H4⟩
    rw [List.flatten_nil, List.append_nil]
    exact H1.out
  case round =>
    obtain ⟨j, bss, hj, rfl, hown, HE, hbl, HO, HF⟩ := hrel
    have hws := HO.out.size
    have hle := cntAll_take_le p.kids j
    have hbig : (bs ++ bss.flatten).length ≤ 900000000 := by
      have := HCE.out
      have := HCN.out
      rw [List.length_append]
      omega
    by_cases hlt : j < L
    · have hlt1 : j < p.kids.length := by have := HL.out; omega
      obtain ⟨b, off, A', cap', rfl, hb, c0, c1, c2, c3, c4, hpk⟩ := HKs.out j hlt1
      have hne : ∀ k, k < B → ¬ k = f := fun k hk => by omega
      have hbw : b < w.heap.size := by omega
      have d0 := (HO.out.cell (o := off + j * 5) hbw (hne b hb)).trans c0
      have d1 := (HO.out.cell (o := off + j * 5 + 1) hbw (hne b hb)).trans c1
      have d2 := (HO.out.cell (o := off + j * 5 + 2) hbw (hne b hb)).trans c2
      have d3 := (HO.out.cell (o := off + j * 5 + 3) hbw (hne b hb)).trans c3
      have d4 := (HO.out.cell (o := off + j * 5 + 4) hbw (hne b hb)).trans c4
      have hp' := hid (hpk.only HO.out (by omega) hne)
      have HX := hid (cntAll_take p.kids j hlt1)
      have hle2 := cntAll_take_le p.kids (j + 1)
      clear c0 c1 c2 c3 c4 hne hpk
      go_wp2_with (first
        | (go_at_call 10; refine (IH.out j hlt1 _ _ (hp'.out.only (Only.alloc (Only.refl (fun _ => False) _) _) (by omega) (fun _ _ h => h)) (HF.out.only (Only.alloc (Only.refl (fun _ => False) _) _) (fun h => h)) (by omega) (by simp; omega)).mono ?_; rintro e w2 ⟨v2, bs2, rfl, r1, r2, r3, r4, r5, r6⟩; have hqs : wr.heap.size < w2.heap.size := (by have := r5.size; simp at this; omega); have HX2 : Hid (Only (fun k => k = f) wr w2) := hid (Only.trans (by simp) r5); have R2 := hid r2; have R4 := hid r4; have R6 := hid r6; obtain ⟨g, cap2, rfl, hg1, hg2, hg3⟩ := r1.ne rfl r3; have R1 := hid r1; have RG := hid hg3; clear r1 r2 r4 r5 r6 hg3)
        | (at_builtin; refine row_append rfl _ _ rfl w.heap.size u5 (bs ++ bss.flatten) rfl (hown.only HX2.out (fun k e hk => by have := (hown.block e).1; have hk : k = f := hk; omega)) _ _ _ bs2 rfl rfl RG.out (by have := R4.out; have := HX.out; have := HCE.out; have := HCN.out; omega) (by omega) ?_; intro v3 w3 s1 s2 s3; have S1 := hid s1; have S2 := hid ((HO.out.trans HX2.out).grown s2 (fun k e hk => by have := (hown.block e).1; omega)); have S3 := hid (R6.out.only (Only.of_grown s2) (fun e => by have := (hown.block e).1; omega)); clear s1 s2 s3))
      go_roundg (gk - 1)
      case measure => omega
      case rel =>
        refine ⟨j + 1, bss ++ [bs2], by omega, by go_num, ?_, hid (HE.out.snoc hlt1 R2.out), ?_, S2, S3⟩
        · rw [flatten_snoc, ← List.append_assoc]
          exact S1.out
        · have := R4.out
          have := HX.out
          rw [flatten_snoc, List.length_append, HX.out]
          omega
    · obtain rfl : j = L := by omega
      go_wp2
      go_ret
      have hfull : cntAll (p.kids.take j) = cntAll p.kids := by rw [List.take_of_length_le (by have := HL.out; omega)]
      have hE := HE.out
      have hhd : Hd p bs := Or.inr (Or.inr (Or.inr (Or.inr (Or.inr (Or.inr (Or.inr ⟨HK.out, by rw [HL.out]; exact H2.out⟩))))))
      refine ⟨u5, _, rfl, hown, Enc.mk p bs bss hhd (by have := hE.1; have := HL.out; omega) hE.2, ?_, ?_, HO.out, HF.out⟩
      · have := (hhd.len HP.out.short).1
        rw [List.length_append]
        omega
      · have := HCE.out
        rw [List.length_append]
        omega

theorem putPack {V : List UInt8 → Prop} (p : P) : ∀ (n : Nat) (cs : List Value) (B f : Nat) (w : World) (_ : Fit n p) (_ : JOk V p) (_ : cnt p ≤ 4000) (_ : IsPack w B p cs) (_ : FormsAt w f) (_ : B ≤ f) (_ : B ≤ w.heap.size), Calls Tryz.prog 10 #[.agg cs.toArray, .pointer (some ⟨f, 0, none⟩)] w (PutPost f p w) := by
  induction p using P.ind with | h p ih => ?_
  intro n cs B f w hf hj hc h hff hBf hB
  cases n with
  | zero => exact hf.elim
  | succ n =>
    obtain ⟨hp, hfk⟩ := hf
    have h0 := hp.k0
    have h1 := hp.k1
    cases hj with
    | mk _ n4 n5 n10 h6 hkids h9 =>
      have hk : p.kind = 0 ∨ p.kind = 1 ∨ (p.kind = 2 ∨ p.kind = 3) ∨ p.kind = 6 ∨ p.kind = 7 ∨ p.kind = 8 ∨ p.kind = 9 := by omega
      have IH : p.kind = 8 ∨ p.kind = 9 → PutIH B f p.kids := fun hk j hj cs w h hff hBf hB => ih j hj n cs B f w (hfk j hj) (hkids hk j hj) (by have := cnt_eq p; have := cntAll_take p.kids j hj; have := cntAll_take_le p.kids (j + 1); omega) h hff hBf hB
      rcases hk with hk | hk | hk | hk | hk | hk | hk
      · exact putPack_0 p cs B f w h hff hp hk
      · exact putPack_1 p cs B f w h hff hp hk
      · exact putPack_i p cs B f w h hff hp hk
      · exact putPack_6 p cs B f w h hff hp hk
      · exact putPack_7 p cs B f w h hff hp hk
      · exact putPack_8 p cs B f w (IH (Or.inl hk)) h hff hB hBf hp hc hk
      · exact putPack_9 p cs B f w (IH (Or.inr hk)) h hff hB hBf hp hc hk
end Go.Proofs.YtbgckolcimlofaaGreatDoor
