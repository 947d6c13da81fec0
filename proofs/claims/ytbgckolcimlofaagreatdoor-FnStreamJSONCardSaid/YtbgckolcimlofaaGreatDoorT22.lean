/-
  asJSON: the pairs of a map; under the value predicate.
  asJSON: the items of an array; under the value predicate.
  asJSON, the whole; where valid text is known to be valid.
-/
import Derived.Test.YtbgckolcimlofaaGreatDoorProg
import Derived.Test.YtbgckolcimlofaaGreatDoorT01
import Derived.Deep.QuietTactic
import Derived.BigQuiet
import Derived.Deep.LoopGhost
import Derived.Deep.DeepCutAuto
import Derived.Handy
import Derived.StillTailTactics
import Derived.Deep.RegionHeld3
import Derived.Deep.RegionLaw
import Derived.Test.YtbgckolcimlofaaGreatDoorT21
set_option linter.unusedVariables false
set_option linter.unusedSimpArgs false
namespace Go.Proofs.YtbgckolcimlofaaGreatDoor
open Go.RowKit YtbgckolcimlofaaGreatDoorPj

set_option maxRecDepth 100000 in
set_option maxHeartbeats 4000000 in
theorem asJSON_8 (p : P) (cs : List Value) (B : Nat) (w : World) (ih : AsIH B p.kids) (h : IsPack w B p cs) (hB : B ≤ w.heap.size) (hp : PNode p) (hk : p.kind = 8) (hv : ValidAt w) :
    Calls Tryz.prog 8 #[.agg cs.toArray] w (AsPost B p w) := by
  have IH := hid ih
  obtain ⟨A, cap, rfl, hlen, hks⟩ := h.open
  have HP := hid hp
  have HK := hid hk
  have HKs := hid hks
  have HV := hid hv
  rw [hk]
  clear h hp hks hk ih hv
  have hfew : p.kids.length ≤ 2000 := HP.out.few
  generalize hL : p.kids.length = L at hlen hfew ⊢
  have HL := hid hL
  clear hL
  have h6 : Five (((w.alloc (.cells #[.int .i64 8, .int .u64 p.num, .string p.text, .int .i64 p.ext, .slice A L cap] 25)).alloc (.cells #[.int .i64 0, .int .u64 0, .string ⟨#[]⟩, .int .i64 0, .slice none 0 0] 25)).alloc (.cells #[.int .i64 8, .int .u64 0, .string ⟨#[]⟩, .int .i64 0, .slice none 0 0] 25)) w.heap.size (.int .i64 8) (.int .u64 p.num) (.string p.text) (.int .i64 p.ext) (.slice A L cap) :=
    ((Five.new _ _ _ _ _ _ _).only (Only.alloc (Only.refl (fun _ => False) _) _) (fun h => h)).only (Only.alloc (Only.refl (fun _ => False) _) _) (fun h => h)
  have h5 : Five (((w.alloc (.cells #[.int .i64 8, .int .u64 p.num, .string p.text, .int .i64 p.ext, .slice A L cap] 25)).alloc (.cells #[.int .i64 0, .int .u64 0, .string ⟨#[]⟩, .int .i64 0, .slice none 0 0] 25)).alloc (.cells #[.int .i64 8, .int .u64 0, .string ⟨#[]⟩, .int .i64 0, .slice none 0 0] 25)) (w.heap.size + 1) (.int .i64 0) (.int .u64 0) (.string ⟨#[]⟩) (.int .i64 0) (.slice none 0 0) := by
    have := (Five.new (w.alloc (.cells #[.int .i64 8, .int .u64 p.num, .string p.text, .int .i64 p.ext, .slice A L cap] 25)) (.int .i64 0) (.int .u64 0) (.string ⟨#[]⟩) (.int .i64 0) (.slice none 0 0) 25).only (Only.alloc (Only.refl (fun _ => False) _) (.cells #[.int .i64 8, .int .u64 0, .string ⟨#[]⟩, .int .i64 0, .slice none 0 0] 25)) (fun h => h)
    rwa [Only.size_alloc] at this
  have h7 : Five (((w.alloc (.cells #[.int .i64 8, .int .u64 p.num, .string p.text, .int .i64 p.ext, .slice A L cap] 25)).alloc (.cells #[.int .i64 0, .int .u64 0, .string ⟨#[]⟩, .int .i64 0, .slice none 0 0] 25)).alloc (.cells #[.int .i64 8, .int .u64 0, .string ⟨#[]⟩, .int .i64 0, .slice none 0 0] 25)) (w.heap.size + 2) (.int .i64 8) (.int .u64 0) (.string ⟨#[]⟩) (.int .i64 0) (.slice none 0 0) := by
    have := Five.new ((w.alloc (.cells #[.int .i64 8, .int .u64 p.num, .string p.text, .int .i64 p.ext, .slice A L cap] 25)).alloc (.cells #[.int .i64 0, .int .u64 0, .string ⟨#[]⟩, .int .i64 0, .slice none 0 0] 25)) (.int .i64 8) (.int .u64 0) (.string ⟨#[]⟩) (.int .i64 0) (.slice none 0 0) 25
    rwa [Only.size_alloc, Only.size_alloc] at this
  have N6 := hid h6
  have N5 := hid h5
  have N7 := hid h7
  clear h5 h6 h7
  go_enter Tryz.func8, Tryz.ntmps8
  go_wp2
  go_loopg [37] L (fun m v wr => ∃ (j : Nat) (vv : Value), j + m = L ∧ v = .int .i64 (j : Nat) ∧ Hid (Only (fun _ => False) w wr) ∧ Hid (Five wr w.heap.size (.int .i64 8) (.int .u64 p.num) (.string p.text) (.int .i64 p.ext) (.slice A L cap)) ∧
    Hid (Five wr (w.heap.size + 1) (.int .i64 0) (.int .u64 0) (.string ⟨#[]⟩) (.int .i64 0) (.slice none 0 0)) ∧ Hid (Five wr (w.heap.size + 2) (.int .i64 8) (.int .u64 0) (.string ⟨#[]⟩) (.int .i64 0) vv) ∧
    Hid (PRow wr (w.heap.size + 3) (fun k => k < B ∨ w.heap.size + 3 ≤ k) vv ((p.kids.take j).map asj)) ∧
    Hid (∀ (i : Nat) (h : i < p.kids.length), i < j → JOk V8 p.kids[i] ∧ (p.kind = 9 → i % 2 = 0 → p.kids[i].kind = 6)))
  case atStart => exact ⟨0, .slice none 0 0, by omega, rfl, hid (((Only.alloc (Only.refl _ w) _).alloc _).alloc _), N6, N5, N7, hid (PRow.nil _ _ _), hid fun i _ h => by omega⟩
  case round =>
    obtain ⟨j, vv, hj, rfl, ho, H6, H5, H7, HR, hok⟩ := hrel
    by_cases hlt : j < L
    · have hlt1 : j < p.kids.length := by have := HL.out; omega
      have hs := ho.out.size
      have hw2 : w.heap.size + 2 < wr.heap.size := H7.out.lt
      obtain ⟨b, off, A1, cap1, rfl, hb, d0, d1, d2, d3, d4, hp⟩ := (HKs.out.only ho.out hB (fun _ _ h => h)) j hlt1
      have HPK := hid hp
      clear hp
      go_wp2_with (first
        | (go_at_call 8; refine (IH.out j hlt1 _ _ (HPK.out.only (show Only (fun _ => False) wr _ by simp) (by omega) (fun _ _ h => h)) (by simp; omega) (HV.out.only (ho.out.alloc _))).mono ?_; rintro e w1 ⟨b', k1, n1, t1, x1, A1', len1, cap1', rfl, h1, h2⟩; have H1 := hid h1; have H2 := hid h2; obtain ⟨c0, c1, c2, c3, c4, -, -, -, -, -⟩ := H6.out.only ((Only.alloc (Only.refl (fun _ => False) _) _).trans h1) (fun h => h); obtain ⟨r0, r1, r2, r3, r4, s0, s1, s2, s3, s4⟩ := H5.out.only ((Only.alloc (Only.refl (fun _ => False) _) _).trans h1) (fun h => h); obtain ⟨o0, o1, o2, o3, o4, p0, p1, p2, p3, p4⟩ := H7.out.only ((Only.alloc (Only.refl (fun _ => False) _) _).trans h1) (fun h => h); obtain ⟨q0, -, -, -, -, -, -, -, -, -⟩ := (Five.new wr _ _ _ _ _ 25).only h1 (fun h => h); have hz3 : wr.heap.size < w1.heap.size := (by have := h1.size; simp at this; omega); have hz2 : w.heap.size + 2 < w1.heap.size := (by omega); have hz1 : w.heap.size + 1 < w1.heap.size := (by omega); have hz0 : w.heap.size < w1.heap.size := (by omega); clear h1 h2; cases b')
        | (at_builtin; refine prow_push rfl _ _ rfl vv ((p.kids.take j).map asj) rfl (HR.out.only (((Only.alloc (Only.refl (fun _ => False) _) _).trans H1.out).alloc _) (fun _ _ _ h => h)) (asj p.kids[j]) [.int .i64 k1, .int .u64 n1, .string t1, .int .i64 x1, .slice A1' len1 cap1'] rfl (by simp) rfl (as_keep (cs := [_, _, _, _, _]) HR.out H1.out hB (by omega) (H2.out (by trivial)).2 _) (fun k hk => Or.inr (by have := H1.out.size; simp at this hk; omega)) (by have := H1.out.size; simp at this ⊢; omega) (by simp; omega) ?_; intro v' w2 hr2 hg2; obtain ⟨A2, cap2, rfl⟩ := hr2.open' (n := j + 1) (by simp; omega); have HR2 := hid hr2; have HG2 := hid hg2; obtain ⟨-, -, -, -, z4, -, -, -, -, y4⟩ := (H7.out.only (((Only.alloc (Only.refl (fun _ => False) _) _).trans H1.out).alloc _) (fun h => h)).only (Only.of_grown hg2) (fun h => by have := (HR.out.block h).1; omega); clear hr2 hg2))
      all_goals first
        | (refine bodyPost_ret (res_cell5 rfl rfl rfl (((H5.out.only ((Only.alloc (Only.refl (fun _ => False) _) _).trans H1.out) (fun h => h)).sets _ _ _ _ _).only (Only.alloc (Only.refl (fun _ => False) _) _) (fun h => h))) rfl ?_
           exact ⟨false, _, _, _, _, _, _, _, rfl, (as_sets (ho.out.trans ((Only.alloc (Only.refl (fun _ => False) _) _).trans H1.out)) _ _ _ _ _).alloc _, by simp⟩)
        | skip
      all_goals
        go_roundg (gk - 1)
        case measure => omega
        case rel =>
          have hw : Only (fun _ => False) wr (w1.alloc (.cells #[.int .i64 k1, .int .u64 n1, .string t1, .int .i64 x1, .slice A1' len1 cap1'] 25)) := ((Only.alloc (Only.refl (fun _ => False) _) _).trans H1.out).alloc _
          have hg : Only (fun k => vv.ownBlock = some k) (w1.alloc (.cells #[.int .i64 k1, .int .u64 n1, .string t1, .int .i64 x1, .slice A1' len1 cap1'] 25)) w2 := Only.of_grown HG2.out
          have hsc : Only (fun k => k = w.heap.size + 2) w2 (w2.setCell ⟨w.heap.size + 2, 4, none⟩ (.slice A2 (j + 1) cap2)) := (Only.refl (fun k => k = w.heap.size + 2) w2).setCell (fun _ => rfl) _
          have hq : ∀ k, vv.ownBlock = some k → w.heap.size + 3 ≤ k := fun k e => (HR.out.block e).1
          refine ⟨j + 1, .slice A2 (j + 1) cap2, by omega, by go_num, hid ?_, hid ?_, hid ?_, hid ?_, hid ?_, hid fun i hi hij => ?_⟩
          · exact ((ho.out.trans hw).grown HG2.out (fun k e hk => by have := hq k e; omega)).trans' hsc (fun i hi e => by have e : i = w.heap.size + 2 := e; omega)
          · exact ((H6.out.only hw (fun h => h)).only hg (fun e => by have := hq _ e; omega)).only hsc (fun e => by omega)
          · exact ((H5.out.only hw (fun h => h)).only hg (fun e => by have := hq _ e; omega)).only hsc (fun e => by omega)
          · exact ((H7.out.only hw (fun h => h)).only hg (fun e => by have := hq _ e; omega)).set4 _
          · have e1 : (p.kids.take (j + 1)).map asj = (p.kids.take j).map asj ++ [asj p.kids[j]] := by
              rw [List.take_add_one, List.map_append, List.getElem?_eq_getElem hlt1]
              rfl
            rw [e1]
            exact HR2.out.only hsc (fun k _ hok e => by have e : k = w.heap.size + 2 := e; omega)
          · by_cases e1 : i = j
            · subst e1
              refine ⟨(H2.out (by trivial)).1, ?_⟩
              first
                | (intro h9; rw [HK.out] at h9; exact absurd h9 (by decide))
                | (intro _ h2; omega)
                | (intro _ h2; simp_all)
            · exact hok.out i hi (by omega)
    · obtain rfl : j = L := by omega
      obtain ⟨o0, o1, o2, o3, o4, -, -, -, -, -⟩ := H7.out
      obtain ⟨r0, r1, r2, r3, r4, s0, s1, s2, s3, s4⟩ := H5.out
      have hlr : ((p.kids.take j).map asj).length = j := by have := HL.out; simp; omega
      obtain ⟨A2, cap2, rfl⟩ := HR.out.open' hlr
      have HLR := hid hlr
      clear hlr
      go_wp2
      refine bodyPost_ret (res_cell5 rfl rfl rfl (H5.out.sets _ _ _ _ _)) rfl ?_
      have ht : p.kids.take j = p.kids := List.take_of_length_le (by have := HL.out; omega)
      refine ⟨true, _, _, _, _, _, _, _, rfl, as_sets ho.out _ _ _ _ _, fun _ => ⟨?_, ?_⟩⟩
      · exact .mk p (by rw [HK.out]; decide) (by rw [HK.out]; decide) (by rw [HK.out]; decide) (by rw [HK.out]; intro h; exact absurd h (by decide)) (fun _ i h => (hok.out i h (by have := HL.out; omega)).1) (fun h9 i h => (hok.out i h (by have := HL.out; omega)).2 h9)
      · rw [asj_89 p (by rw [HK.out]; decide), HK.out]
        have hr := HR.out
        rw [ht] at hr
        have hl2 : (p.kids.map asj).length = j := by have := HL.out; simp; omega
        rw [← hl2] at hr ⊢
        refine (hr.pk 8 0 0 ⟨#[]⟩ (by decide) (by decide) (by decide) (by omega)).keep fun k hk hok => ⟨by omega, ?_⟩
        exact (as_sets5 _ _ _ _ _).block k hk (fun e => by have e : k = w.heap.size + 1 := e; omega)
end Go.Proofs.YtbgckolcimlofaaGreatDoor
namespace Go.Proofs.YtbgckolcimlofaaGreatDoor
open Go.RowKit YtbgckolcimlofaaGreatDoorPj

set_option maxRecDepth 100000 in
set_option maxHeartbeats 4000000 in
theorem asJSON_9 (p : P) (cs : List Value) (B : Nat) (w : World) (ih : AsIH B p.kids) (h : IsPack w B p cs) (hB : B ≤ w.heap.size) (hp : PNode p) (hk : p.kind = 9) (hv : ValidAt w) :
    Calls Tryz.prog 8 #[.agg cs.toArray] w (AsPost B p w) := by
  have IH := hid ih
  obtain ⟨A, cap, rfl, hlen, hks⟩ := h.open
  have HP := hid hp
  have HK := hid hk
  have HKs := hid hks
  have HV := hid hv
  rw [hk]
  clear h hp hks hk ih hv
  have hfew : p.kids.length ≤ 2000 := HP.out.few
  generalize hL : p.kids.length = L at hlen hfew ⊢
  have HL := hid hL
  clear hL
  have h6 : Five (((w.alloc (.cells #[.int .i64 9, .int .u64 p.num, .string p.text, .int .i64 p.ext, .slice A L cap] 25)).alloc (.cells #[.int .i64 0, .int .u64 0, .string ⟨#[]⟩, .int .i64 0, .slice none 0 0] 25)).alloc (.cells #[.int .i64 9, .int .u64 0, .string ⟨#[]⟩, .int .i64 0, .slice none 0 0] 25)) w.heap.size (.int .i64 9) (.int .u64 p.num) (.string p.text) (.int .i64 p.ext) (.slice A L cap) :=
    ((Five.new _ _ _ _ _ _ _).only (Only.alloc (Only.refl (fun _ => False) _) _) (fun h => h)).only (Only.alloc (Only.refl (fun _ => False) _) _) (fun h => h)
  have h5 : Five (((w.alloc (.cells #[.int .i64 9, .int .u64 p.num, .string p.text, .int .i64 p.ext, .slice A L cap] 25)).alloc (.cells #[.int .i64 0, .int .u64 0, .string ⟨#[]⟩, .int .i64 0, .slice none 0 0] 25)).alloc (.cells #[.int .i64 9, .int .u64 0, .string ⟨#[]⟩, .int .i64 0, .slice none 0 0] 25)) (w.heap.size + 1) (.int .i64 0) (.int .u64 0) (.string ⟨#[]⟩) (.int .i64 0) (.slice none 0 0) := by
    have := (Five.new (w.alloc (.cells #[.int .i64 9, .int .u64 p.num, .string p.text, .int .i64 p.ext, .slice A L cap] 25)) (.int .i64 0) (.int .u64 0) (.string ⟨#[]⟩) (.int .i64 0) (.slice none 0 0) 25).only (Only.alloc (Only.refl (fun _ => False) _) (.cells #[.int .i64 9, .int .u64 0, .string ⟨#[]⟩, .int .i64 0, .slice none 0 0] 25)) (fun h => h)
    rwa [Only.size_alloc] at this
  have h7 : Five (((w.alloc (.cells #[.int .i64 9, .int .u64 p.num, .string p.text, .int .i64 p.ext, .slice A L cap] 25)).alloc (.cells #[.int .i64 0, .int .u64 0, .string ⟨#[]⟩, .int .i64 0, .slice none 0 0] 25)).alloc (.cells #[.int .i64 9, .int .u64 0, .string ⟨#[]⟩, .int .i64 0, .slice none 0 0] 25)) (w.heap.size + 2) (.int .i64 9) (.int .u64 0) (.string ⟨#[]⟩) (.int .i64 0) (.slice none 0 0) := by
    have := Five.new ((w.alloc (.cells #[.int .i64 9, .int .u64 p.num, .string p.text, .int .i64 p.ext, .slice A L cap] 25)).alloc (.cells #[.int .i64 0, .int .u64 0, .string ⟨#[]⟩, .int .i64 0, .slice none 0 0] 25)) (.int .i64 9) (.int .u64 0) (.string ⟨#[]⟩) (.int .i64 0) (.slice none 0 0) 25
    rwa [Only.size_alloc, Only.size_alloc] at this
  have N6 := hid h6
  have N5 := hid h5
  have N7 := hid h7
  clear h5 h6 h7
  go_enter Tryz.func8, Tryz.ntmps8
  go_wp2
  go_loopg [37] L (fun m v wr => ∃ (j : Nat) (vv : Value), j + m = L ∧ v = .int .i64 (j : Nat) ∧ Hid (Only (fun _ => False) w wr) ∧ Hid (Five wr w.heap.size (.int .i64 9) (.int .u64 p.num) (.string p.text) (.int .i64 p.ext) (.slice A L cap)) ∧
    Hid (Five wr (w.heap.size + 1) (.int .i64 0) (.int .u64 0) (.string ⟨#[]⟩) (.int .i64 0) (.slice none 0 0)) ∧ Hid (Five wr (w.heap.size + 2) (.int .i64 9) (.int .u64 0) (.string ⟨#[]⟩) (.int .i64 0) vv) ∧
    Hid (PRow wr (w.heap.size + 3) (fun k => k < B ∨ w.heap.size + 3 ≤ k) vv ((p.kids.take j).map asj)) ∧
    Hid (∀ (i : Nat) (h : i < p.kids.length), i < j → JOk V8 p.kids[i] ∧ (p.kind = 9 → i % 2 = 0 → p.kids[i].kind = 6)))
  case atStart => exact ⟨0, .slice none 0 0, by omega, rfl, hid (((Only.alloc (Only.refl _ w) _).alloc _).alloc _), N6, N5, N7, hid (PRow.nil _ _ _), hid fun i _ h => by omega⟩
  case round =>
    obtain ⟨j, vv, hj, rfl, ho, H6, H5, H7, HR, hok⟩ := hrel
    by_cases hlt : j < L
    · have hlt1 : j < p.kids.length := by have := HL.out; omega
      have hs := ho.out.size
      have hw2 : w.heap.size + 2 < wr.heap.size := H7.out.lt
      obtain ⟨b, off, A1, cap1, rfl, hb, d0, d1, d2, d3, d4, hp⟩ := (HKs.out.only ho.out hB (fun _ _ h => h)) j hlt1
      have HPK := hid hp
      clear hp
      go_wp2_with (first
        | (go_at_call 8; refine (IH.out j hlt1 _ _ (HPK.out.only (show Only (fun _ => False) wr _ by simp) (by omega) (fun _ _ h => h)) (by simp; omega) (HV.out.only (ho.out.alloc _))).mono ?_; rintro e w1 ⟨b', k1, n1, t1, x1, A1', len1, cap1', rfl, h1, h2⟩; have H1 := hid h1; have H2 := hid h2; obtain ⟨c0, c1, c2, c3, c4, -, -, -, -, -⟩ := H6.out.only ((Only.alloc (Only.refl (fun _ => False) _) _).trans h1) (fun h => h); obtain ⟨r0, r1, r2, r3, r4, s0, s1, s2, s3, s4⟩ := H5.out.only ((Only.alloc (Only.refl (fun _ => False) _) _).trans h1) (fun h => h); obtain ⟨o0, o1, o2, o3, o4, p0, p1, p2, p3, p4⟩ := H7.out.only ((Only.alloc (Only.refl (fun _ => False) _) _).trans h1) (fun h => h); obtain ⟨q0, -, -, -, -, -, -, -, -, -⟩ := (Five.new wr _ _ _ _ _ 25).only h1 (fun h => h); have hz3 : wr.heap.size < w1.heap.size := (by have := h1.size; simp at this; omega); have hz2 : w.heap.size + 2 < w1.heap.size := (by omega); have hz1 : w.heap.size + 1 < w1.heap.size := (by omega); have hz0 : w.heap.size < w1.heap.size := (by omega); clear h1 h2; cases b')
        | (at_builtin; refine prow_push rfl _ _ rfl vv ((p.kids.take j).map asj) rfl (HR.out.only (((Only.alloc (Only.refl (fun _ => False) _) _).trans H1.out).alloc _) (fun _ _ _ h => h)) (asj p.kids[j]) [.int .i64 k1, .int .u64 n1, .string t1, .int .i64 x1, .slice A1' len1 cap1'] rfl (by simp) rfl (as_keep (cs := [_, _, _, _, _]) HR.out H1.out hB (by omega) (H2.out (by trivial)).2 _) (fun k hk => Or.inr (by have := H1.out.size; simp at this hk; omega)) (by have := H1.out.size; simp at this ⊢; omega) (by simp; omega) ?_; intro v' w2 hr2 hg2; obtain ⟨A2, cap2, rfl⟩ := hr2.open' (n := j + 1) (by simp; omega); have HR2 := hid hr2; have HG2 := hid hg2; obtain ⟨-, -, -, -, z4, -, -, -, -, y4⟩ := (H7.out.only (((Only.alloc (Only.refl (fun _ => False) _) _).trans H1.out).alloc _) (fun h => h)).only (Only.of_grown hg2) (fun h => by have := (HR.out.block h).1; omega); clear hr2 hg2))
      all_goals first
        | (refine bodyPost_ret (res_cell5 rfl rfl rfl (((H5.out.only ((Only.alloc (Only.refl (fun _ => False) _) _).trans H1.out) (fun h => h)).sets _ _ _ _ _).only (Only.alloc (Only.refl (fun _ => False) _) _) (fun h => h))) rfl ?_
           exact ⟨false, _, _, _, _, _, _, _, rfl, (as_sets (ho.out.trans ((Only.alloc (Only.refl (fun _ => False) _) _).trans H1.out)) _ _ _ _ _).alloc _, by simp⟩)
        | skip
      all_goals
        go_roundg (gk - 1)
        case measure => omega
        case rel =>
          have hw : Only (fun _ => False) wr (w1.alloc (.cells #[.int .i64 k1, .int .u64 n1, .string t1, .int .i64 x1, .slice A1' len1 cap1'] 25)) := ((Only.alloc (Only.refl (fun _ => False) _) _).trans H1.out).alloc _
          have hg : Only (fun k => vv.ownBlock = some k) (w1.alloc (.cells #[.int .i64 k1, .int .u64 n1, .string t1, .int .i64 x1, .slice A1' len1 cap1'] 25)) w2 := Only.of_grown HG2.out
          have hsc : Only (fun k => k = w.heap.size + 2) w2 (w2.setCell ⟨w.heap.size + 2, 4, none⟩ (.slice A2 (j + 1) cap2)) := (Only.refl (fun k => k = w.heap.size + 2) w2).setCell (fun _ => rfl) _
          have hq : ∀ k, vv.ownBlock = some k → w.heap.size + 3 ≤ k := fun k e => (HR.out.block e).1
          refine ⟨j + 1, .slice A2 (j + 1) cap2, by omega, by go_num, hid ?_, hid ?_, hid ?_, hid ?_, hid ?_, hid fun i hi hij => ?_⟩
          · exact ((ho.out.trans hw).grown HG2.out (fun k e hk => by have := hq k e; omega)).trans' hsc (fun i hi e => by have e : i = w.heap.size + 2 := e; omega)
          · exact ((H6.out.only hw (fun h => h)).only hg (fun e => by have := hq _ e; omega)).only hsc (fun e => by omega)
          · exact ((H5.out.only hw (fun h => h)).only hg (fun e => by have := hq _ e; omega)).only hsc (fun e => by omega)
          · exact ((H7.out.only hw (fun h => h)).only hg (fun e => by have := hq _ e; omega)).set4 _
          · have e1 : (p.kids.take (j + 1)).map asj = (p.kids.take j).map asj ++ [asj p.kids[j]] := by
              rw [List.take_add_one, List.map_append, List.getElem?_eq_getElem hlt1]
              rfl
            rw [e1]
            exact HR2.out.only hsc (fun k _ hok e => by have e : k = w.heap.size + 2 := e; omega)
          · by_cases e1 : i = j
            · subst e1
              refine ⟨(H2.out (by trivial)).1, ?_⟩
              first
                | (intro h9; rw [HK.out] at h9; exact absurd h9 (by decide))
                | (intro _ h2; omega)
                | (intro _ h2; simp_all)
            · exact hok.out i hi (by omega)
    · obtain rfl : j = L := by omega
      obtain ⟨o0, o1, o2, o3, o4, -, -, -, -, -⟩ := H7.out
      obtain ⟨r0, r1, r2, r3, r4, s0, s1, s2, s3, s4⟩ := H5.out
      have hlr : ((p.kids.take j).map asj).length = j := by have := HL.out; simp; omega
      obtain ⟨A2, cap2, rfl⟩ := HR.out.open' hlr
      have HLR := hid hlr
      clear hlr
      go_wp2
      refine bodyPost_ret (res_cell5 rfl rfl rfl (H5.out.sets _ _ _ _ _)) rfl ?_
      have ht : p.kids.take j = p.kids := List.take_of_length_le (by have := HL.out; omega)
      refine ⟨true, _, _, _, _, _, _, _, rfl, as_sets ho.out _ _ _ _ _, fun _ => ⟨?_, ?_⟩⟩
      · exact .mk p (by rw [HK.out]; decide) (by rw [HK.out]; decide) (by rw [HK.out]; decide) (by rw [HK.out]; intro h; exact absurd h (by decide)) (fun _ i h => (hok.out i h (by have := HL.out; omega)).1) (fun h9 i h => (hok.out i h (by have := HL.out; omega)).2 h9)
      · rw [asj_89 p (by rw [HK.out]; decide), HK.out]
        have hr := HR.out
        rw [ht] at hr
        have hl2 : (p.kids.map asj).length = j := by have := HL.out; simp; omega
        rw [← hl2] at hr ⊢
        refine (hr.pk 9 0 0 ⟨#[]⟩ (by decide) (by decide) (by decide) (by omega)).keep fun k hk hok => ⟨by omega, ?_⟩
        exact (as_sets5 _ _ _ _ _).block k hk (fun e => by have e : k = w.heap.size + 1 := e; omega)
end Go.Proofs.YtbgckolcimlofaaGreatDoor
namespace Go.Proofs.YtbgckolcimlofaaGreatDoor
open Go.RowKit YtbgckolcimlofaaGreatDoorPj

theorem asJSON (p : P) : ∀ (n : Nat) (cs : List Value) (B : Nat) (w : World) (_ : Fit n p) (_ : IsPack w B p cs) (_ : B ≤ w.heap.size) (_ : ValidAt w), Calls Tryz.prog 8 #[.agg cs.toArray] w (AsPost B p w) := by
  induction p using P.ind with | h p ih => ?_
  intro n cs B w hf h hB hv
  cases n with
  | zero => exact hf.elim
  | succ n =>
    obtain ⟨hp, hfk⟩ := hf
    have IH : AsIH B p.kids := fun j hj cs w h hB hv => ih j hj n cs B w (hfk j hj) h hB hv
    have h0 := hp.k0
    have h1 := hp.k1
    have hk : p.kind = 0 ∨ p.kind = 1 ∨ p.kind = 2 ∨ p.kind = 3 ∨ p.kind = 4 ∨ p.kind = 5 ∨ p.kind = 6 ∨ p.kind = 7 ∨ p.kind = 8 ∨ p.kind = 9 ∨ p.kind = 10 := by omega
    rcases hk with hk | hk | hk | hk | hk | hk | hk | hk | hk | hk | hk
    · exact asJSON_0 p cs B w h hB hp hk
    · exact asJSON_1 p cs B w h hB hp hk
    · exact asJSON_2 p cs B w h hB hp hk
    · exact asJSON_3 p cs B w h hB hp hk
    · exact asJSON_4 p cs B w h hB hp hk
    · exact asJSON_5 p cs B w h hB hp hk
    · exact asJSON_6 p cs B w h hB hp hk hv
    · exact asJSON_7 p cs B w h hB hp hk
    · exact asJSON_8 p cs B w IH h hB hp hk hv
    · exact asJSON_9 p cs B w IH h hB hp hk hv
    · exact asJSON_10 p cs B w h hB hp hk
end Go.Proofs.YtbgckolcimlofaaGreatDoor
