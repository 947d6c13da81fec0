/-
  rwquoted: a text is written with quotes and escapes; for valid text.
-/
import Derived.Test.YtbgckolcimlofaaGreatDoorProg
import Derived.Test.YtbgckolcimlofaaGreatDoorT24
set_option linter.unusedVariables false
set_option linter.unusedSimpArgs false
namespace Go.Proofs.YtbgckolcimlofaaGreatDoor
open Go.RowKit YtbgckolcimlofaaGreatDoorPj

set_option maxRecDepth 100000 in
set_option maxHeartbeats 8000000 in
theorem rwquoted (t : Nat) (g o cap : Nat) (bs : List UInt8) (L : Nat) (F G : Nat → Prop) (out : List UInt8) (w : World) (h : Txt w G t out) (hl : out.length + 6 * bs.length ≤ 35184372088832) (hp : InRoom w F (.slice (some ⟨g, o, none⟩) L cap) bs) (hL : bs.length = L) (h0 : 0 < L)
    (hFG : ∀ k, F k → ¬ G k) (hv : Go.Lib.validD bs = true) (hdec : ∀ out' w1, Wrote G t out' w w1 → DecCall w1) :
    Calls Tryz.prog 74 #[.iface 49 (.pointer (some ⟨t, 0, none⟩)), .slice (some ⟨g, o, none⟩) L cap] w (RqPost G t (out ++ quote bs) w) := by
  have HT := hid h
  have HP := hid hp
  have HFG := hid hFG
  have HV := hid hv
  have HD := hid hdec
  have HL := hid hL
  have HLN := hid hl
  have hL2 : L ≤ 5864062014805 := by omega
  have HQ : Hid (∀ out' wr, Wrote G t out' w wr → InRoom wr F (.slice (some ⟨g, o, none⟩) L cap) bs) := hid fun out' wr hw => hp.wrote hw hFG
  have hc1 : L ≤ cap ∧ cap ≤ 4398046511104 := by
    obtain ⟨A, c', e, h1, h2, _⟩ := hp
    injection e with e1 e2 e3
    omega
  obtain ⟨hc1, hc2⟩ := hc1
  have hEL := hid (esc_len _ bs rfl)
  clear h hp hFG hv hdec hL hl
  have hn1 := nilW
  have hn2 := nilWB
  go_enter Tryz.func74, Tryz.ntmps74
  go_wp2_with (go_at_call 197; refine (writeByte t 34 G out w _ (Wrote.start HT.out) (by have := HLN.out; omega)).mono ?_; rintro e w1 ⟨rfl, h1⟩; have H1 := hid h1; clear h1)
  go_loopg [4, 5, 7, 8] (L + 1) (fun m v4 v5 v7 v8 wr => ∃ (i st : Nat) (z : Int) (E : List UInt8), i + m = L + 1 ∧ i ≤ L ∧ st ≤ i ∧ v4 = .int .i64 z ∧ v5 = .nilIface ∧ v7 = .int .i64 (st : Nat) ∧ v8 = .int .i64 (i : Nat) ∧ Hid (Wrote G t (out ++ 34 :: E) w wr) ∧
    Hid (E ++ (bs.drop st).take (i - st) ++ esc (bs.drop i) = esc bs) ∧ Hid (Go.Lib.validD (bs.drop i) = true))
  case atStart =>
    exact ⟨0, 0, _, [], by omega, by omega, Nat.le_refl _, rfl, rfl, rfl, rfl, H1, hid (by simp), HV⟩
  case round =>
    obtain ⟨i, st, z, E, him, hiL, hsti, rfl, rfl, rfl, rfl, HW, HE, HVI⟩ := hrel
    have hOL : (out ++ 34 :: E).length ≤ 70368744177664 := by
      have h1 := congrArg List.length HE.out
      have h2 := hEL.out
      have h3 := HLN.out
      simp only [List.length_append] at h1
      rw [List.length_append, List.length_cons]
      omega
    by_cases hlt : i < L
    · have hlt1 : i < bs.length := by rw [HL.out]; exact hlt
      obtain ⟨b, hb⟩ : ∃ b, b = bs[i] := ⟨_, rfl⟩
      have HB := hid hb
      have hbc : wr.cell? ⟨g, o + i, none⟩ = some (.int .u8 ((b.toNat : Nat) : Int)) := by
        obtain ⟨g', o', c', e, _, _, _, hcc⟩ := (HQ.out _ _ HW.out).get (by omega)
        injection e with e
        injection e with e
        injection e with e1 e2
        subst e1 e2
        rw [hb]
        exact hcc i hlt1
      have hb256 := b.toNat_lt
      clear hb
      have HDC : Hid (bs.drop i = b :: bs.drop (i + 1)) := hid (by rw [HB.out]; exact drop_cons_get bs i hlt1)
      by_cases hasc : b.toNat < 128
      · have HVN : Hid (Go.Lib.validD (bs.drop (i + 1)) = true) := hid (by have := HVI.out; rw [HDC.out] at this; exact v8_ascii b _ hasc this)
        by_cases hpl : 32 ≤ b.toNat ∧ b.toNat ≠ 92 ∧ b.toNat ≠ 34 ∧ b.toNat ≠ 60 ∧ b.toNat ≠ 62 ∧ b.toNat ≠ 38
        · as_aux_lemma =>
          obtain ⟨p0, p1, p2, p3, p4, p5⟩ := hpl
          have q1 : (((b.toNat : Nat) : Int) != 92) = true := by simp; omega
          have q2 : (((b.toNat : Nat) : Int) != 34) = true := by simp; omega
          have q3 : (((b.toNat : Nat) : Int) != 60) = true := by simp; omega
          have q4 : (((b.toNat : Nat) : Int) != 62) = true := by simp; omega
          have q5 : (((b.toNat : Nat) : Int) != 38) = true := by simp; omega
          have HPL := hid (escB_plain b p0 p1 p2 p3 p4 p5)
          clear p1 p2 p3 p4 p5
          go_wp2
          go_roundg (gk - 1)
          case measure => omega
          case rel =>
            refine ⟨i + 1, st, z, E, by omega, by omega, by omega, rfl, rfl, rfl, by go_num, HW, hid ?_, HVN⟩
            rw [← HE.out, seg_snoc bs st i 1 hsti (by omega), HDC.out, esc_cons b _ (by omega), HPL.out]
            simp
        · have HC := hid hpl
          clear hpl
          obtain ⟨O, hO⟩ : ∃ O, O = out ++ 34 :: (E ++ (bs.drop st).take (i - st)) := ⟨_, rfl⟩
          have hO2 : O.length ≤ 70368744177000 := by
            have h1 := congrArg List.length HE.out
            have h2 := hEL.out
            have h3 := HLN.out
            simp only [List.length_append] at h1
            rw [hO, List.length_append, List.length_cons, List.length_append]
            omega
          have HO := hid hO
          clear hO
          go_upto_region 10 with fail
          go_cut [49] (fun v49 wx => v49 = .bool false ∧ wx = wr)
          case first =>
            as_aux_lemma =>
            have hcl : b.toNat < 32 ∨ b.toNat = 92 ∨ b.toNat = 34 ∨ b.toNat = 60 ∨ b.toNat = 62 ∨ b.toNat = 38 := by have := HC.out; omega
            rcases hcl with e | e | e | e | e | e
            · go_wp2
              go_meet
              exact ⟨rfl, rfl⟩
            · have q0 : (32 : Int) ≤ ((b.toNat : Nat) : Int) := by omega
              have q92 : (((b.toNat : Nat) : Int) != 92) = false := by simp; omega
              have q34 : (((b.toNat : Nat) : Int) != 34) = true := by simp; omega
              have q60 : (((b.toNat : Nat) : Int) != 60) = true := by simp; omega
              have q62 : (((b.toNat : Nat) : Int) != 62) = true := by simp; omega
              have q38 : (((b.toNat : Nat) : Int) != 38) = true := by simp; omega
              have he := hid e
              clear e
              go_wp2
              go_meet
              exact ⟨rfl, rfl⟩
            · have q0 : (32 : Int) ≤ ((b.toNat : Nat) : Int) := by omega
              have q92 : (((b.toNat : Nat) : Int) != 92) = true := by simp; omega
              have q34 : (((b.toNat : Nat) : Int) != 34) = false := by simp; omega
              have q60 : (((b.toNat : Nat) : Int) != 60) = true := by simp; omega
              have q62 : (((b.toNat : Nat) : Int) != 62) = true := by simp; omega
              have q38 : (((b.toNat : Nat) : Int) != 38) = true := by simp; omega
              have he := hid e
              clear e
              go_wp2
              go_meet
              exact ⟨rfl, rfl⟩
            · have q0 : (32 : Int) ≤ ((b.toNat : Nat) : Int) := by omega
              have q92 : (((b.toNat : Nat) : Int) != 92) = true := by simp; omega
              have q34 : (((b.toNat : Nat) : Int) != 34) = true := by simp; omega
              have q60 : (((b.toNat : Nat) : Int) != 60) = false := by simp; omega
              have q62 : (((b.toNat : Nat) : Int) != 62) = true := by simp; omega
              have q38 : (((b.toNat : Nat) : Int) != 38) = true := by simp; omega
              have he := hid e
              clear e
              go_wp2
              go_meet
              exact ⟨rfl, rfl⟩
            · have q0 : (32 : Int) ≤ ((b.toNat : Nat) : Int) := by omega
              have q92 : (((b.toNat : Nat) : Int) != 92) = true := by simp; omega
              have q34 : (((b.toNat : Nat) : Int) != 34) = true := by simp; omega
              have q60 : (((b.toNat : Nat) : Int) != 60) = true := by simp; omega
              have q62 : (((b.toNat : Nat) : Int) != 62) = false := by simp; omega
              have q38 : (((b.toNat : Nat) : Int) != 38) = true := by simp; omega
              have he := hid e
              clear e
              go_wp2
              go_meet
              exact ⟨rfl, rfl⟩
            · have q0 : (32 : Int) ≤ ((b.toNat : Nat) : Int) := by omega
              have q92 : (((b.toNat : Nat) : Int) != 92) = true := by simp; omega
              have q34 : (((b.toNat : Nat) : Int) != 34) = true := by simp; omega
              have q60 : (((b.toNat : Nat) : Int) != 60) = true := by simp; omega
              have q62 : (((b.toNat : Nat) : Int) != 62) = true := by simp; omega
              have q38 : (((b.toNat : Nat) : Int) != 38) = false := by simp; omega
              have he := hid e
              clear e
              go_wp2
              go_meet
              exact ⟨rfl, rfl⟩
          case rest =>
            obtain ⟨rfl, rfl⟩ := hcut
            have hLb : bs.length = L := HL.out
            go_upto_if 54 with fail
            go_cut [4, 5] (fun v4 v5 wx => ∃ z' : Int, v4 = .int .i64 z' ∧ v5 = .nilIface ∧ Hid (Wrote G t O w wx))
            case first =>
              as_aux_lemma =>
              have hLb : bs.length = L := HL.out
              by_cases hsi : st < i
              · have hcs : ¬ cap = st := by omega
                have hi0 : (0 : Int) ≤ (st : Nat) := by omega
                have hi1 : ((st : Nat) : Int) ≤ (i : Nat) := by omega
                have hi2 : ((i : Nat) : Int) ≤ (cap : Nat) := by omega
                go_wp2_with fail
                go_region_held3 (fun _ => True) (trivial)
                  (first
                    | (go_at_call 196; go_must (refine (write t _ ((bs.drop st).take (i - st)) F G _ w _ (HW.out.same (Only.drew (Only.refl (fun _ => False) _))) (by omega) ((HQ.out _ _ (HW.out.same (Only.drew (Only.refl (fun _ => False) _)))).part st (i - st) _ (by omega) ⟨by omega, by omega⟩) (by rw [List.length_take, List.length_drop]; omega)).mono ?_); rintro e w1 ⟨rfl, h1⟩; have HWc := hid h1; clear h1))
                go_wp2
                go_meet
                exact ⟨_, rfl, rfl, hid (by have := HWc.out; rw [HO.out]; simpa using this)⟩
              · go_wp2
                go_meet
                have e : i - st = 0 := by omega
                exact ⟨z, rfl, rfl, by rw [HO.out, e]; simpa using HW⟩
            case rest =>
              obtain ⟨z', rfl, rfl, HWc⟩ := hcut
              have hcl : b.toNat = 92 ∨ b.toNat = 34 ∨ b.toNat = 10 ∨ b.toNat = 13 ∨ b.toNat = 9 ∨ ((b.toNat < 32 ∨ b.toNat = 60 ∨ b.toNat = 62 ∨ b.toNat = 38) ∧ b.toNat ≠ 10 ∧ b.toNat ≠ 13 ∧ b.toNat ≠ 9) := by have := HC.out; omega
              have hE : ∀ X : List UInt8, escB b = X → Hid ((E ++ (bs.drop st).take (i - st) ++ X) ++ (bs.drop (i + 1)).take (i + 1 - (i + 1)) ++ esc (bs.drop (i + 1)) = esc bs) := fun X hX => hid (by rw [← HE.out, HDC.out, esc_cons b _ (by omega), hX]; simp)
              have HEE := hid hE
              clear hE hLb
              rcases hcl with e | e | e | e | e | e
              · as_aux_lemma =>
                have HX := hid (escB_bs b (Or.inl e))
                have r92 : (((b.toNat : Nat) : Int) == 92) = true := by simp; omega
                have r34 : (((b.toNat : Nat) : Int) == 34) = false := by simp; omega
                have r10 : (((b.toNat : Nat) : Int) == 10) = false := by simp; omega
                have r13 : (((b.toNat : Nat) : Int) == 13) = false := by simp; omega
                have r9 : (((b.toNat : Nat) : Int) == 9) = false := by simp; omega
                have he := hid e
                clear e
                go_wp2_with (first
                  | (go_at_call 197; refine (writeByte t 92 G O w _ HWc.out (by omega)).mono ?_; rintro e w1 ⟨rfl, h1⟩; have HW1 := hid h1; clear h1; clear HWc)
                  | (go_at_call 197; refine (writeByte t b G _ w _ HW1.out (by simp; omega)).mono ?_; rintro e w2 ⟨rfl, h2⟩; have HW2 := hid h2; clear h2))
                go_roundg (gk - 1)
                case measure => omega
                case rel => exact ⟨i + 1, i + 1, _, _, by omega, by omega, by omega, rfl, rfl, by go_num, by go_num, hid (by have := HW2.out; rw [HO.out] at this; simpa using this), HEE.out _ HX.out, HVN⟩
              · as_aux_lemma =>
                have HX := hid (escB_bs b (Or.inr e))
                have r92 : (((b.toNat : Nat) : Int) == 92) = false := by simp; omega
                have r34 : (((b.toNat : Nat) : Int) == 34) = true := by simp; omega
                have r10 : (((b.toNat : Nat) : Int) == 10) = false := by simp; omega
                have r13 : (((b.toNat : Nat) : Int) == 13) = false := by simp; omega
                have r9 : (((b.toNat : Nat) : Int) == 9) = false := by simp; omega
                have he := hid e
                clear e
                go_wp2_with (first
                  | (go_at_call 197; refine (writeByte t 92 G O w _ HWc.out (by omega)).mono ?_; rintro e w1 ⟨rfl, h1⟩; have HW1 := hid h1; clear h1; clear HWc)
                  | (go_at_call 197; refine (writeByte t b G _ w _ HW1.out (by simp; omega)).mono ?_; rintro e w2 ⟨rfl, h2⟩; have HW2 := hid h2; clear h2))
                go_roundg (gk - 1)
                case measure => omega
                case rel => exact ⟨i + 1, i + 1, _, _, by omega, by omega, by omega, rfl, rfl, by go_num, by go_num, hid (by have := HW2.out; rw [HO.out] at this; simpa using this), HEE.out _ HX.out, HVN⟩
              · as_aux_lemma =>
                have HX := hid (escB_10 b e)
                have r92 : (((b.toNat : Nat) : Int) == 92) = false := by simp; omega
                have r34 : (((b.toNat : Nat) : Int) == 34) = false := by simp; omega
                have r10 : (((b.toNat : Nat) : Int) == 10) = true := by simp; omega
                have r13 : (((b.toNat : Nat) : Int) == 13) = false := by simp; omega
                have r9 : (((b.toNat : Nat) : Int) == 9) = false := by simp; omega
                have he := hid e
                clear e
                go_wp2_with (first
                  | (go_at_call 197; refine (writeByte t 92 G O w _ HWc.out (by omega)).mono ?_; rintro e w1 ⟨rfl, h1⟩; have HW1 := hid h1; clear h1; clear HWc)
                  | (go_at_call 197; refine (writeByte t 110 G _ w _ HW1.out (by simp; omega)).mono ?_; rintro e w2 ⟨rfl, h2⟩; have HW2 := hid h2; clear h2))
                go_roundg (gk - 1)
                case measure => omega
                case rel => exact ⟨i + 1, i + 1, _, _, by omega, by omega, by omega, rfl, rfl, by go_num, by go_num, hid (by have := HW2.out; rw [HO.out] at this; simpa using this), HEE.out _ HX.out, HVN⟩
              · as_aux_lemma =>
                have HX := hid (escB_13 b e)
                have r92 : (((b.toNat : Nat) : Int) == 92) = false := by simp; omega
                have r34 : (((b.toNat : Nat) : Int) == 34) = false := by simp; omega
                have r10 : (((b.toNat : Nat) : Int) == 10) = false := by simp; omega
                have r13 : (((b.toNat : Nat) : Int) == 13) = true := by simp; omega
                have r9 : (((b.toNat : Nat) : Int) == 9) = false := by simp; omega
                have he := hid e
                clear e
                go_wp2_with (first
                  | (go_at_call 197; refine (writeByte t 92 G O w _ HWc.out (by omega)).mono ?_; rintro e w1 ⟨rfl, h1⟩; have HW1 := hid h1; clear h1; clear HWc)
                  | (go_at_call 197; refine (writeByte t 114 G _ w _ HW1.out (by simp; omega)).mono ?_; rintro e w2 ⟨rfl, h2⟩; have HW2 := hid h2; clear h2))
                go_roundg (gk - 1)
                case measure => omega
                case rel => exact ⟨i + 1, i + 1, _, _, by omega, by omega, by omega, rfl, rfl, by go_num, by go_num, hid (by have := HW2.out; rw [HO.out] at this; simpa using this), HEE.out _ HX.out, HVN⟩
              · as_aux_lemma =>
                have HX := hid (escB_9 b e)
                have r92 : (((b.toNat : Nat) : Int) == 92) = false := by simp; omega
                have r34 : (((b.toNat : Nat) : Int) == 34) = false := by simp; omega
                have r10 : (((b.toNat : Nat) : Int) == 10) = false := by simp; omega
                have r13 : (((b.toNat : Nat) : Int) == 13) = false := by simp; omega
                have r9 : (((b.toNat : Nat) : Int) == 9) = true := by simp; omega
                have he := hid e
                clear e
                go_wp2_with (first
                  | (go_at_call 197; refine (writeByte t 92 G O w _ HWc.out (by omega)).mono ?_; rintro e w1 ⟨rfl, h1⟩; have HW1 := hid h1; clear h1; clear HWc)
                  | (go_at_call 197; refine (writeByte t 116 G _ w _ HW1.out (by simp; omega)).mono ?_; rintro e w2 ⟨rfl, h2⟩; have HW2 := hid h2; clear h2))
                go_roundg (gk - 1)
                case measure => omega
                case rel => exact ⟨i + 1, i + 1, _, _, by omega, by omega, by omega, rfl, rfl, by go_num, by go_num, hid (by have := HW2.out; rw [HO.out] at this; simpa using this), HEE.out _ HX.out, HVN⟩
              · as_aux_lemma =>
                have HX := hid (escB_hex b e.1 e.2.1 e.2.2.1 e.2.2.2)
                have r92 : (((b.toNat : Nat) : Int) == 92) = false := by simp; omega
                have r34 : (((b.toNat : Nat) : Int) == 34) = false := by simp; omega
                have r10 : (((b.toNat : Nat) : Int) == 10) = false := by simp; omega
                have r13 : (((b.toNat : Nat) : Int) == 13) = false := by simp; omega
                have r9 : (((b.toNat : Nat) : Int) == 9) = false := by simp; omega
                have hb16 : b.toNat < 64 := by omega
                have hand : bits .and .u8 (b.toNat : Int) 15 = (b.toNat : Int) % 16 := by have := and15_u8 ⟨b.toNat, hb256⟩; simpa using this
                have he := hid e
                clear e
                go_wp2_with (first
                  | (go_at_call 198; refine (writeString t ⟨#[92, 117, 48, 48]⟩ G O w _ HWc.out (by omega) (by decide)).mono ?_; rintro e w1 ⟨rfl, h1⟩; have HW1 := hid h1; clear h1; clear HWc))
                go_region_held3 (fun _ => True) (trivial)
                  (first
                    | (go_at_call 197; go_must (refine (writeByte_eq t _ (hexd (b.toNat / 16)) (hexAt _ _ _ (by omega)) G _ w _ (HW1.out.same (Only.drew (Only.refl (fun _ => False) _))) (by simp [tx]; omega)).mono ?_); rintro e w2 ⟨rfl, h2⟩; have HW2 := hid h2; clear h2))
                all_goals
                  go_wp2
                  go_region_held3 (fun _ => True) (trivial)
                    (first
                      | (go_at_call 197; go_must (refine (writeByte_eq t _ (hexd (b.toNat % 16)) (hexAt _ _ _ (by omega)) G _ w _ (HW2.out.same (Only.drew (Only.refl (fun _ => False) _))) (by simp [tx]; omega)).mono ?_); rintro e w3 ⟨rfl, h3⟩; have HW3 := hid h3; clear h3))
                all_goals
                  go_wp2
                  go_roundg (gk - 1)
                  case measure => omega
                  case rel => exact ⟨i + 1, i + 1, _, _, by omega, by omega, by omega, rfl, rfl, by go_num, by go_num, hid (by have := HW3.out; rw [HO.out] at this; simpa [tx] using this), HEE.out _ HX.out, HVN⟩
      · as_aux_lemma =>
        have hLb : bs.length = L := HL.out
        have hdl : (bs.drop i).length = L - i := by rw [List.length_drop, hLb]
        have hne : bs.drop i ≠ [] := fun e => by rw [e] at hdl; simp at hdl; omega
        have hg0 : (bs.drop i).getD 0 0 = b := by rw [HDC.out]; rfl
        obtain ⟨r, k, hdc, k2, k4, kl, hvk, hcont, hr8, hr9, hr3⟩ := v8_lead (bs.drop i) hne HVI.out (by rw [hg0]; omega)
        rw [hdl] at kl
        rw [List.drop_drop] at hvk
        have HVK := hid hvk
        have HDCL : Hid (∀ c wr', Wrote G t (out ++ 34 :: E) w wr' → L - i ≤ c ∧ c ≤ 4398046511104 → Calls Tryz.prog 98 #[.slice (some ⟨g, o + i, none⟩) (L - i) c] wr' fun e w' => e = .returned (.tuple #[.int .i32 (r : Nat), .int .i64 (k : Nat)]) ∧ Only (fun _ => False) wr' w') := hid (by
          intro c wr' hw hc
          have h1 := (HQ.out _ _ hw).part i (L - i) c (by omega) hc
          rw [List.take_of_length_le (by omega)] at h1
          have h2 := HD.out _ _ hw _ _ (h1.mono fun _ _ => trivial) (by omega)
          rw [hdc] at h2
          exact h2)
        have HR8 := hid hr8
        have HR9 := hid hr9
        have HR3 := hid hr3
        have HCONT := hid hcont
        have HG0 := hid hg0
        have HDL := hid hdl
        clear hr8 hr9 hr3 hcont hg0 hdl hne hdc hLb hvk
        have hcs : ¬ cap = i := by omega
        have hk1 : ((k : Int) == 1) = false := by simp; omega
        have hi0 : (0 : Int) ≤ (i : Nat) := by omega
        have hi1 : ((i : Nat) : Int) ≤ (L : Nat) := by omega
        have hi2 : ((L : Nat) : Int) ≤ (cap : Nat) := by omega
        by_cases h89 : r = 8232 ∨ r = 8233
        · as_aux_lemma =>
          have hk3 : k = 3 := HR3.out h89
          subst hk3
          obtain ⟨O, hO⟩ : ∃ O, O = out ++ 34 :: (E ++ (bs.drop st).take (i - st)) := ⟨_, rfl⟩
          have hO2 : O.length ≤ 70368744177000 := by
            have h1 := congrArg List.length HE.out
            have h2 := hEL.out
            have h3 := HLN.out
            simp only [List.length_append] at h1
            rw [hO, List.length_append, List.length_cons, List.length_append]
            omega
          have HO := hid hO
          clear hO
          have HEE : Hid (∀ x : UInt8, (r = 8232 ∧ x = 56 ∨ r = 8233 ∧ x = 57) → (E ++ (bs.drop st).take (i - st) ++ [92, 117, 50, 48, 50, x]) ++ (bs.drop (i + 3)).take (i + 3 - (i + 3)) ++ esc (bs.drop (i + 3)) = esc bs) := hid (by
            intro x hx
            rw [← HE.out]
            rcases hx with ⟨h, rfl⟩ | ⟨h, rfl⟩
            · obtain ⟨e0, e1, e2⟩ := HR8.out.1 h
              rw [esc_2028 (bs.drop i) (by rw [HDL.out]; omega) 168 (Or.inl rfl) e0 e1 e2, List.drop_drop]
              simp
            · obtain ⟨e0, e1, e2⟩ := HR9.out.1 h
              rw [esc_2028 (bs.drop i) (by rw [HDL.out]; omega) 169 (Or.inr rfl) e0 e1 e2, List.drop_drop]
              simp)
          have h89' : ((r : Int) == 65533) = false := by simp; omega
          rcases h89 with h89 | h89
          · have r8 : ((r : Int) == 8232) = true := by simp; omega
            have HR := hid h89
            have hand : bits .and .i32 (r : Int) 15 = 8 := by rw [HR.out]; decide
            have hxx : Hid (hexd 8 = 56) := hid (by decide)

            clear h89
            go_upto_if 223 with (go_at_call 98; refine (HDCL.out _ _ HW.out (by omega)).mono ?_; rintro e w1 ⟨rfl, h1⟩; have HW1 := hid (HW.out.same h1); clear h1)
            go_cut [4, 5] (fun v4 v5 wx => ∃ z' : Int, v4 = .int .i64 z' ∧ v5 = .nilIface ∧ Hid (Wrote G t O w wx))
            case first =>
              as_aux_lemma =>
              by_cases hsi : st < i
              · have hcs : ¬ cap = st := by omega
                have hj0 : (0 : Int) ≤ (st : Nat) := by omega
                have hj1 : ((st : Nat) : Int) ≤ (i : Nat) := by omega
                have hj2 : ((i : Nat) : Int) ≤ (cap : Nat) := by omega
                go_wp2_with fail
                go_region_held3 (fun _ => True) (trivial)
                  (first
                    | (go_at_call 196; go_must (refine (write t _ ((bs.drop st).take (i - st)) F G _ w _ (HW1.out.same (Only.drew (Only.refl (fun _ => False) _))) (by omega) ((HQ.out _ _ (HW1.out.same (Only.drew (Only.refl (fun _ => False) _)))).part st (i - st) _ (by have := HL.out; omega) ⟨by omega, by omega⟩) (by rw [List.length_take, List.length_drop, HL.out]; omega)).mono ?_); rintro e w1 ⟨rfl, h1⟩; have HWc := hid h1; clear h1))
                go_wp2
                go_meet
                exact ⟨_, rfl, rfl, hid (by have := HWc.out; rw [HO.out]; simpa using this)⟩
              · go_wp2
                go_meet
                have e : i - st = 0 := by omega
                exact ⟨z, rfl, rfl, by rw [HO.out, e]; simpa using HW1⟩
            case rest =>
              as_aux_lemma =>
              obtain ⟨z', rfl, rfl, HWc⟩ := hcut
              clear HW1
              go_wp2_with (first
                | (go_at_call 198; refine (writeString t ⟨#[92, 117, 50, 48, 50]⟩ G O w _ HWc.out (by omega) (by decide)).mono ?_; rintro e w1 ⟨rfl, h1⟩; have HW1 := hid h1; clear h1; clear HWc))
              go_region_held3 (fun _ => True) (trivial)
                (first
                  | (go_at_call 197; go_must (refine (writeByte_eq t _ 56 (hexAt _ 8 _ (by omega)) G _ w _ (HW1.out.same (Only.drew (Only.refl (fun _ => False) _))) (by simp [tx]; omega)).mono ?_); rintro e w2 ⟨rfl, h2⟩; have HW2 := hid h2; clear h2))
              all_goals
                go_wp2
                go_roundg (gk - 3)
                case measure => omega
                case rel => exact ⟨i + 3, i + 3, _, _, by omega, by omega, by omega, rfl, rfl, by go_num, by go_num, hid (by have := HW2.out; rw [HO.out] at this; simpa [tx] using this), hid (HEE.out 56 (Or.inl ⟨HR.out, rfl⟩)), HVK⟩
          · have r8 : ((r : Int) == 8232) = false := by simp; omega
            have r9 : ((r : Int) == 8233) = true := by simp; omega
            have HR := hid h89
            have hand : bits .and .i32 (r : Int) 15 = 9 := by rw [HR.out]; decide
            have hxx : Hid (hexd 9 = 57) := hid (by decide)

            clear h89
            go_upto_if 223 with (go_at_call 98; refine (HDCL.out _ _ HW.out (by omega)).mono ?_; rintro e w1 ⟨rfl, h1⟩; have HW1 := hid (HW.out.same h1); clear h1)
            go_cut [4, 5] (fun v4 v5 wx => ∃ z' : Int, v4 = .int .i64 z' ∧ v5 = .nilIface ∧ Hid (Wrote G t O w wx))
            case first =>
              as_aux_lemma =>
              by_cases hsi : st < i
              · have hcs : ¬ cap = st := by omega
                have hj0 : (0 : Int) ≤ (st : Nat) := by omega
                have hj1 : ((st : Nat) : Int) ≤ (i : Nat) := by omega
                have hj2 : ((i : Nat) : Int) ≤ (cap : Nat) := by omega
                go_wp2_with fail
                go_region_held3 (fun _ => True) (trivial)
                  (first
                    | (go_at_call 196; go_must (refine (write t _ ((bs.drop st).take (i - st)) F G _ w _ (HW1.out.same (Only.drew (Only.refl (fun _ => False) _))) (by omega) ((HQ.out _ _ (HW1.out.same (Only.drew (Only.refl (fun _ => False) _)))).part st (i - st) _ (by have := HL.out; omega) ⟨by omega, by omega⟩) (by rw [List.length_take, List.length_drop, HL.out]; omega)).mono ?_); rintro e w1 ⟨rfl, h1⟩; have HWc := hid h1; clear h1))
                go_wp2
                go_meet
                exact ⟨_, rfl, rfl, hid (by have := HWc.out; rw [HO.out]; simpa using this)⟩
              · go_wp2
                go_meet
                have e : i - st = 0 := by omega
                exact ⟨z, rfl, rfl, by rw [HO.out, e]; simpa using HW1⟩
            case rest =>
              as_aux_lemma =>
              obtain ⟨z', rfl, rfl, HWc⟩ := hcut
              clear HW1
              go_wp2_with (first
                | (go_at_call 198; refine (writeString t ⟨#[92, 117, 50, 48, 50]⟩ G O w _ HWc.out (by omega) (by decide)).mono ?_; rintro e w1 ⟨rfl, h1⟩; have HW1 := hid h1; clear h1; clear HWc))
              go_region_held3 (fun _ => True) (trivial)
                (first
                  | (go_at_call 197; go_must (refine (writeByte_eq t _ 57 (hexAt _ 9 _ (by omega)) G _ w _ (HW1.out.same (Only.drew (Only.refl (fun _ => False) _))) (by simp [tx]; omega)).mono ?_); rintro e w2 ⟨rfl, h2⟩; have HW2 := hid h2; clear h2))
              all_goals
                go_wp2
                go_roundg (gk - 3)
                case measure => omega
                case rel => exact ⟨i + 3, i + 3, _, _, by omega, by omega, by omega, rfl, rfl, by go_num, by go_num, hid (by have := HW2.out; rw [HO.out] at this; simpa [tx] using this), hid (HEE.out 57 (Or.inr ⟨HR.out, rfl⟩)), HVK⟩
        · have r8 : ((r : Int) == 8232) = false := by simp; omega
          have r9 : ((r : Int) == 8233) = false := by simp; omega
          have HN89 := hid h89
          clear h89
          by_cases hrf : r = 65533
          · have rf : ((r : Int) == 65533) = true := by simp; omega
            have HRF := hid hrf
            clear hrf
            go_wp2_with (go_at_call 98; refine (HDCL.out _ _ HW.out (by omega)).mono ?_; rintro e w1 ⟨rfl, h1⟩; have HW1 := hid (HW.out.same h1); clear h1)
            go_roundg (gk - k)
            case measure => omega
            case rel =>
              refine ⟨i + k, st, z, E, by omega, by omega, by omega, rfl, rfl, rfl, by go_num, HW1, hid ?_, HVK⟩
              have hn : ¬ (((bs.drop i).getD 0 0).toNat = 226 ∧ ((bs.drop i).getD 1 0).toNat = 128 ∧ (((bs.drop i).getD 2 0).toNat = 168 ∨ ((bs.drop i).getD 2 0).toNat = 169)) := by
                rintro ⟨e0, e1, e2 | e2⟩
                · exact HN89.out (Or.inl (HR8.out.2 ⟨e0, e1, e2⟩))
                · exact HN89.out (Or.inr (HR9.out.2 ⟨e0, e1, e2⟩))
              have hre := esc_rune (bs.drop i) k k2 (by rw [HDL.out]; omega) (by rw [HG0.out]; omega) HCONT.out hn
              rw [← HE.out, seg_snoc bs st i k hsti (by rw [HL.out]; omega), hre, List.drop_drop]
              simp
          · have rf : ((r : Int) == 65533) = false := by simp; omega
            have HRF := hid hrf
            clear hrf
            go_wp2_with (go_at_call 98; refine (HDCL.out _ _ HW.out (by omega)).mono ?_; rintro e w1 ⟨rfl, h1⟩; have HW1 := hid (HW.out.same h1); clear h1)
            go_roundg (gk - k)
            case measure => omega
            case rel =>
              refine ⟨i + k, st, z, E, by omega, by omega, by omega, rfl, rfl, rfl, by go_num, HW1, hid ?_, HVK⟩
              have hn : ¬ (((bs.drop i).getD 0 0).toNat = 226 ∧ ((bs.drop i).getD 1 0).toNat = 128 ∧ (((bs.drop i).getD 2 0).toNat = 168 ∨ ((bs.drop i).getD 2 0).toNat = 169)) := by
                rintro ⟨e0, e1, e2 | e2⟩
                · exact HN89.out (Or.inl (HR8.out.2 ⟨e0, e1, e2⟩))
                · exact HN89.out (Or.inr (HR9.out.2 ⟨e0, e1, e2⟩))
              have hre := esc_rune (bs.drop i) k k2 (by rw [HDL.out]; omega) (by rw [HG0.out]; omega) HCONT.out hn
              rw [← HE.out, seg_snoc bs st i k hsti (by rw [HL.out]; omega), hre, List.drop_drop]
              simp
    · as_aux_lemma =>
      obtain rfl : i = L := by omega
      have hLb : bs.length = i := HL.out
      have HE2 : Hid (E ++ (bs.drop st).take (i - st) = esc bs) := hid (by have := HE.out; rw [List.drop_eq_nil_of_le (by omega : bs.length ≤ i)] at this; simpa [esc] using this)
      have hol : (out ++ 34 :: (E ++ (bs.drop st).take (i - st))).length ≤ 70368744177000 := by
        have h1 := congrArg List.length HE2.out
        have h2 := hEL.out
        have h3 := HLN.out
        rw [List.length_append, List.length_cons, h1]
        omega
      clear hLb
      by_cases hsi : st < i
      · have hcs : ¬ cap = st := by omega
        have hi0 : (0 : Int) ≤ (st : Nat) := by omega
        have hi1 : ((st : Nat) : Int) ≤ (i : Nat) := by omega
        have hi2 : ((i : Nat) : Int) ≤ (cap : Nat) := by omega
        go_wp2_with fail
        go_region_held3 (fun _ => True) (trivial)
          (first
            | (go_at_call 196; go_must (refine (write t _ ((bs.drop st).take (i - st)) F G _ w _ (HW.out.same (Only.drew (Only.refl (fun _ => False) _))) (by omega) ((HQ.out _ _ (HW.out.same (Only.drew (Only.refl (fun _ => False) _)))).part st (i - st) _ (by have := HL.out; omega) ⟨by omega, by omega⟩) (by rw [List.length_take, List.length_drop, HL.out]; omega)).mono ?_); rintro e w1 ⟨rfl, h1⟩; have HW1 : Hid (Wrote G t (out ++ 34 :: (E ++ (bs.drop st).take (i - st))) w w1) := hid (by simpa using h1); clear h1))
        go_wp2_with (go_at_call 197; refine (writeByte t 34 G _ w _ HW1.out (by omega)).mono ?_; rintro e w2 ⟨rfl, h2⟩; have HW2 := hid h2; clear h2)
        go_ret2
        refine ⟨_, rfl, ?_⟩
        have := HW2.out
        rw [HE2.out] at this
        simpa [quote] using this
      · have e : (bs.drop st).take (i - st) = [] := by rw [show i - st = 0 by omega]; rfl
        have HE3 : Hid (E = esc bs) := hid (by have := HE2.out; rw [e] at this; simpa using this)
        clear e
        go_wp2_with (go_at_call 197; refine (writeByte t 34 G _ w _ HW.out (by omega)).mono ?_; rintro e w2 ⟨rfl, h2⟩; have HW2 := hid h2; clear h2)
        go_ret2
        refine ⟨_, rfl, ?_⟩
        have := HW2.out
        rw [HE3.out] at this
        simpa [quote] using this
end Go.Proofs.YtbgckolcimlofaaGreatDoor
