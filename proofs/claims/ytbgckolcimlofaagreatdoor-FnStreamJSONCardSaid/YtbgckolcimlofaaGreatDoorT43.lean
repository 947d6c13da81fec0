/-
  utf8.Valid says whether the bytes are UTF-8; where the two tables of utf8 are laid.
-/
import Derived.Test.YtbgckolcimlofaaGreatDoorProg
import Derived.Test.YtbgckolcimlofaaGreatDoorT42
import Derived.Test.YtbgckolcimlofaaGreatDoorT41
import Derived.Test.YtbgckolcimlofaaGreatDoorT26
set_option linter.unusedVariables false
set_option linter.unusedSimpArgs false
namespace Go.Proofs.YtbgckolcimlofaaGreatDoor
open Go.RowKit YtbgckolcimlofaaGreatDoorPj Go.Lib

theorem BytesAt.cell {w : World} {g off : Nat} {l : List UInt8} (h : BytesAt w (some ⟨g, off, none⟩) l) (j : Nat) (hj : j < l.length) : w.cell? ⟨g, off + j, none⟩ = some (.int .u8 ((l.getD j 0).toNat : Int)) := by
  obtain ⟨b, o, e, hc⟩ := h j hj
  injection e with e
  injection e with e1 e2
  subst e1 e2
  rw [hc, List.getD_eq_getElem?_getD, List.getElem?_eq_getElem hj]
  rfl
theorem BytesAt.skip {w : World} {g off : Nat} {l : List UInt8} (h : BytesAt w (some ⟨g, off, none⟩) l) (k : Nat) : BytesAt w (some ⟨g, off + k, none⟩) (l.drop k) := by
  intro j hj
  rw [List.length_drop] at hj
  obtain ⟨b, o, e, hc⟩ := h (k + j) (by omega)
  injection e with e
  injection e with e1 e2
  subst e1 e2
  refine ⟨g, off + k, rfl, ?_⟩
  rw [Nat.add_assoc, hc, List.getElem_drop]
theorem BytesAt.skipIf {w : World} {g off : Nat} {l : List UInt8} (h : BytesAt w (some ⟨g, off, none⟩) l) (k q : Nat) (hq : l.length = q + k) (A' : Option Addr) (hA : q ≠ 0 → A' = some ⟨g, off + k, none⟩) : BytesAt w A' (l.drop k) := by
  by_cases h0 : q = 0
  · rw [List.drop_eq_nil_of_le (by omega)]
    exact fun j hj => absurd hj (by simp)
  · rw [hA h0]
    exact h.skip k
theorem BytesAt.only {w w' : World} {A : Option Addr} {l : List UInt8} (h : BytesAt w A l) (ho : Only (fun _ => False) w w') : BytesAt w' A l := by
  intro j hj
  obtain ⟨b, o, e, hc⟩ := h j hj
  exact ⟨b, o, e, (ho.cell (World.block_lt_of_cell? w _ hc) (fun h => h)).trans hc⟩
theorem BytesAt.nil (w : World) (A : Option Addr) : BytesAt w A [] := fun j hj => absurd hj (by simp)
theorem BytesAt.some {w : World} {A : Option Addr} {l : List UInt8} (h : BytesAt w A l) (h0 : 0 < l.length) : ∃ g off, A = some ⟨g, off, none⟩ := by
  obtain ⟨b, o, e, hc⟩ := h 0 h0
  exact ⟨b, o, e⟩
theorem wordAt (g off kk nn cc : Nat) (l : List UInt8) (w : World) (h : BytesAt w (some ⟨g, off, none⟩) l) (hl : kk + 8 ≤ l.length) (hn : 8 ≤ nn) (A' : Nat) (hA : A' = off + kk) :
    Calls Tryz.prog 60 #[.slice (some ⟨g, A', none⟩) nn cc] w fun e w' => e = .returned (.int .u64 (W8 l kk : Nat)) ∧ ∃ q, w' = w.drewN q := by
  subst hA
  have hc : ∀ i, i < 8 → w.cell? ⟨g, off + kk + i, none⟩ = some (.int .u8 ((l.getD (kk + i) 0).toNat : Int)) := fun i hi => by
    rw [Nat.add_assoc]
    exact h.cell (kk + i) (by omega)
  exact wordB g (off + kk) nn cc _ _ _ _ _ _ _ _ w hn (hc 0 (by omega)) (hc 1 (by omega)) (hc 2 (by omega)) (hc 3 (by omega)) (hc 4 (by omega)) (hc 5 (by omega)) (hc 6 (by omega)) (hc 7 (by omega))
theorem W8_lt (l : List UInt8) (k : Nat) : W8 l k < 18446744073709551616 := le8_lt _ _ _ _ _ _ _ _
theorem lead_cases (l : List UInt8) (h0 : 128 ≤ (l.getD 0 0).toNat) (hl : 0 < l.length) (hv : validD l = true) :
    ∃ kk, (kk = 2 ∨ kk = 3 ∨ kk = 4) ∧ Lib.firstT (l.getD 0 0).toNat % 8 = kk ∧ kk ≤ l.length ∧ Lib.accLo (Lib.firstT (l.getD 0 0).toNat / 16) ≤ (l.getD 1 0).toNat ∧ (l.getD 1 0).toNat ≤ Lib.accHi (Lib.firstT (l.getD 0 0).toNat / 16) ∧
      (3 ≤ kk → 128 ≤ (l.getD 2 0).toNat ∧ (l.getD 2 0).toNat ≤ 191) ∧ (4 ≤ kk → 128 ≤ (l.getD 3 0).toNat ∧ (l.getD 3 0).toNat ≤ 191) ∧ validD (l.drop kk) = true ∧ Lib.firstT (l.getD 0 0).toNat < 256 := by
  have hne : l ≠ [] := fun e => by rw [e] at hl; simp at hl
  have hlead := Lib.validD_lead l hne h0
  rw [hv] at hlead
  have hX : Lib.firstT (l.getD 0 0).toNat < 256 := by rcases Lib.firstT_cases (l.getD 0 0).toNat with h | h | h | h | h | h | h | h | h <;> omega
  unfold Lib.checkN at hlead
  split at hlead
  · cases hlead
  · rename_i k hk
    split at hk
    · rename_i h2
      split at hk
      · cases hk
      · injection hk with hk
        subst hk
        exact ⟨2, Or.inl rfl, h2, by omega, by omega, by omega, by omega, by omega, hlead.symm, hX⟩
    · split at hk
      · rename_i h3
        split at hk
        · cases hk
        · injection hk with hk
          subst hk
          exact ⟨3, Or.inr (Or.inl rfl), h3, by omega, by omega, by omega, by omega, by omega, hlead.symm, hX⟩
      · split at hk
        · rename_i h4
          split at hk
          · cases hk
          · injection hk with hk
            subst hk
            exact ⟨4, Or.inr (Or.inr rfl), h4, by omega, by omega, by omega, by omega, by omega, hlead.symm, hX⟩
        · cases hk
theorem utf8_only {w w' : World} (h : Lib.Utf8Tabs 1 2 w) (ho : Only (fun _ => False) w w') : Lib.Utf8Tabs 1 2 w' :=
  ⟨fun c hc => (ho.cell (World.block_lt_of_cell? w _ (h.1 c hc)) (fun h => h)).trans (h.1 c hc), fun i hi => ⟨(ho.cell (World.block_lt_of_cell? w _ (h.2 i hi).1) (fun h => h)).trans (h.2 i hi).1, (ho.cell (World.block_lt_of_cell? w _ (h.2 i hi).2) (fun h => h)).trans (h.2 i hi).2⟩⟩
def ValidPost (w : World) (e : Ending) (w' : World) : Prop := e = .returned (.bool true) ∧ Only (fun _ => False) w w'
set_option maxRecDepth 100000 in
set_option maxHeartbeats 64000000 in
theorem validBytes (w : World) (A : Option Addr) (l : List UInt8) (n cap : Nat) (hl : l.length = n) (hnc : n ≤ cap) (hcap : cap ≤ 9223372036854775807) (hS : BytesAt w A l) (hv : validD l = true) (hT : Lib.Utf8Tabs 1 2 w) :
    Calls Tryz.prog 42 #[.slice A n cap] w (ValidPost w) := by
  have HS := hid hS
  have HV := hid hv
  have HT := hid hT
  have HL := hid hl
  clear hS hv hT hl
  have z1 : (0 : Int) ≤ n := by omega
  have z2 : (n : Int) ≤ cap := by omega
  go_enter Tryz.func42, Tryz.ntmps42
  go_wp2
  go_loopg [0, 3, 4, 5, 6] (n + 1) (fun gk v0 v3 v4 v5 v6 wr => ∃ (A : Option Addr) (l : List UInt8) (n : Nat), v0 = .slice A n n ∧ Hid (l.length = n) ∧ n < gk ∧ n ≤ 9223372036854775807 ∧ Hid (BytesAt wr A l) ∧ Hid (validD l = true) ∧ Hid (Only (fun _ => False) w wr))
  case atStart => exact ⟨A, l, n, rfl, HL, by omega, by omega, HS, HV, hid (Only.refl _ _)⟩
  case round =>
    clear HS HV HL z1 z2 hnc hcap
    obtain ⟨A, l, n, rfl, HL, hg, hcap, HS, HV, HO⟩ := hrel
    obtain ⟨g', rfl⟩ : ∃ g', gk = g' + 1 := ⟨gk - 1, by omega⟩
    by_cases h0 : 0 < n
    · obtain ⟨m, rfl⟩ : ∃ m, n = m + 1 := ⟨n - 1, by omega⟩
      obtain ⟨g, off, rfl⟩ := HS.out.some (by rw [HL.out]; exact h0)
      have hz0 : (0 : Int) < (m : Int) + 1 := by omega
      have c0 := HS.out.cell 0 (by rw [HL.out]; exact h0)
      obtain ⟨x0, hx0⟩ : ∃ x0, l.getD 0 0 = x0 := ⟨_, rfl⟩
      rw [hx0, Nat.add_zero] at c0
      have HX0 := hid hx0
      clear hx0
      have HV1 : Hid (x0.toNat < 128 → validD (l.drop 1) = true) := hid fun h => by
        rw [← ascii_skip 1 l ?_]
        · exact HV.out
        · intro b hb
          have := HX0.out
          cases l with
          | nil => simp at hb
          | cons a r => simp at hb this; rw [hb, this]; exact h
      by_cases hasc : x0.toNat < 128
      · as_aux_lemma =>
          have hascz : (x0.toNat : Int) < 128 := by omega
          by_cases c8 : 8 < m
          · obtain ⟨k, rfl⟩ : ∃ k, m = k + 8 := ⟨m - 8, by omega⟩
            have c8z : (8 : Int) < (k : Int) + 8 := by omega
            have hw1 := W8_asc l 1 (by rw [HL.out]; omega)
            have hl1 := W8_lt l 1
            have HW : Hid (∀ W A', A' = off + 1 → BytesAt W (some ⟨g, off, none⟩) l → Calls Tryz.prog 60 #[.slice (some ⟨g, A', none⟩) (k + 8) (k + 8)] W fun e w' => e = .returned (.int .u64 (W8 l 1 : Nat)) ∧ ∃ q, w' = W.drewN q) := hid fun W A' hA hb => wordAt g off 1 _ _ l W hb (by rw [HL.out]; omega) (by omega) A' hA
            generalize W8 l 1 = A1 at hw1 hl1 HW
            have hand1 : bits .and .u64 (A1 : Int) 9259542123273814144 = ((A1 &&& 9259542123273814144 : Nat) : Int) := u64_and_nat A1 9259542123273814144 hl1 (by omega)
            obtain ⟨Z1, hZ1⟩ : ∃ Z1, A1 &&& 9259542123273814144 = Z1 := ⟨_, rfl⟩
            rw [hZ1] at hand1 hw1
            clear hZ1 hl1
            have HW1 := hid hw1
            clear hw1
            by_cases hz1 : Z1 = 0
            · as_aux_lemma =>
                have hz1b : ((Z1 : Int) == 0) = true := by simp [hz1]
                go_wp2_with (go_at_call 60; refine (HW.out _ _ ?_ ?_).mono ?_; rfl; exact HS.out; rintro e w1 ⟨rfl, q1, rfl⟩)
                have hs2 := (HS.out.only (Only.drewN (Only.refl _ _) q1)).skip 9
                have hv2 : validD (l.drop 9) = true := by
                  have := HV1.out hasc
                  rw [ascii_skip 8 _ (HW1.out hz1), List.drop_drop] at this
                  exact this
                have ho2 := HO.out.drewN q1
                have hl2 : (l.drop 9).length = k := by rw [List.length_drop, HL.out]; omega
                have hk0 : 0 < k := by omega
                clear HW HW1 hand1 hz1 hz1b HV1 HX0 HS HV HO HL c0 hascz hasc c8z c8 hz0 h0
                generalize l.drop 9 = l2 at hs2 hv2 hl2
                generalize wr.drewN q1 = wr at hs2 ho2 ⊢
                have HS := hid hs2
                have HV := hid hv2
                have HO := hid ho2
                have HL := hid hl2
                clear hs2 hv2 ho2 hl2
                by_cases c16 : 16 < k
                · obtain ⟨q, rfl⟩ : ∃ q, k = q + 16 := ⟨k - 16, by omega⟩
                  have c16z : (16 : Int) < (q : Int) + 16 := by omega
                  have s8z : (8 : Int) ≤ (q : Int) + 16 := by omega
                  have HW2 : Hid (∀ W A', A' = off + 9 → BytesAt W (some ⟨g, off + 9, none⟩) l2 → Calls Tryz.prog 60 #[.slice (some ⟨g, A', none⟩) (q + 16) (q + 16)] W fun e w' => e = .returned (.int .u64 (W8 l2 0 : Nat)) ∧ ∃ q, w' = W.drewN q) := hid fun W A' hA hb => wordAt g (off + 9) 0 _ _ l2 W hb (by rw [HL.out]; omega) (by omega) A' hA
                  have HW3 : Hid (∀ W A' nn cc, A' = off + 17 → 8 ≤ nn → BytesAt W (some ⟨g, off + 9, none⟩) l2 → Calls Tryz.prog 60 #[.slice (some ⟨g, A', none⟩) nn cc] W fun e w' => e = .returned (.int .u64 (W8 l2 8 : Nat)) ∧ ∃ q, w' = W.drewN q) := hid fun W A' nn cc hA hn hb => wordAt g (off + 9) 8 _ _ l2 W hb (by rw [HL.out]; omega) hn A' (by omega)
                  have lA2 := W8_lt l2 0
                  have lA3 := W8_lt l2 8
                  have k2 : (W8 l2 0 ||| W8 l2 8) &&& 9259542123273814144 = 0 → validD (l2.drop 16) = true := fun h0' => by
                    obtain ⟨e1, e2⟩ := (Lib.or_mask _ _ _).1 h0'
                    have v1 := HV.out
                    rw [ascii_skip 8 l2 (by simpa using W8_asc l2 0 (by rw [HL.out]; omega) e1), ascii_skip 8 (l2.drop 8) (W8_asc l2 8 (by rw [HL.out]; omega) e2), List.drop_drop] at v1
                    exact v1
                  generalize W8 l2 0 = A2 at HW2 lA2 k2
                  generalize W8 l2 8 = A3 at HW3 lA3 k2
                  have hor2 : bits .or .u64 (A2 : Int) (A3 : Int) = ((A2 ||| A3 : Nat) : Int) := u64_or_nat A2 A3 lA2 lA3
                  have lor2 : A2 ||| A3 < 18446744073709551616 := Nat.or_lt_two_pow (n := 64) lA2 lA3
                  have hand2 : bits .and .u64 ((A2 ||| A3 : Nat) : Int) 9259542123273814144 = (((A2 ||| A3) &&& 9259542123273814144 : Nat) : Int) := u64_and_nat _ 9259542123273814144 lor2 (by omega)
                  obtain ⟨O2, hO2⟩ : ∃ O2, A2 ||| A3 = O2 := ⟨_, rfl⟩
                  rw [hO2] at hor2 hand2 k2
                  obtain ⟨Z2, hZ2⟩ : ∃ Z2, O2 &&& 9259542123273814144 = Z2 := ⟨_, rfl⟩
                  rw [hZ2] at hand2 k2
                  have K2 := hid k2
                  clear k2 lA2 lA3 lor2 hO2 hZ2
                  by_cases hz2 : Z2 = 0
                  · as_aux_lemma =>
                      have hz2b : ((Z2 : Int) == 0) = true := by simp [hz2]
                      go_quiet (first | (go_at_call_of 60 (off + (1 : Nat) + (8 : Nat) + (8 : Nat)); refine Calls.quiet_of (HW3.out _ _ _ _ (by omega) (by omega) (HS.out.only (Only.drewN (Only.refl _ _) _)))) | (go_at_call_of 60 (off + (1 : Nat) + (8 : Nat)); refine Calls.quiet_of (HW2.out _ _ (by omega) (HS.out.only (Only.drewN (Only.refl _ _) _)))))
                      have hs3 := (HS.out.only (Only.drewN (Only.refl _ _) nq)).skip 16
                      have hv3 := K2.out hz2
                      have ho3 := HO.out.drewN nq
                      have hl3 : (l2.drop 16).length = q := by rw [List.length_drop, HL.out]; omega
                      have hq0 : 0 < q := by omega
                      clear HW2 HW3 hor2 hand2 hz2 hz2b HS HV HO HL K2 s8z
                      generalize l2.drop 16 = l3 at hs3 hv3 hl3
                      generalize wr.drewN nq = wr at hs3 ho3 ⊢
                      have HS := hid hs3
                      have HV := hid hv3
                      have HO := hid ho3
                      have HL := hid hl3
                      clear hs3 hv3 ho3 hl3
                      go_wp2
                      go_loopg [0] (q + 1) (fun g2 v0 wr => ∃ (A : Option Addr) (l : List UInt8) (n : Nat), v0 = .slice A n n ∧ Hid (l.length = n) ∧ n < g2 ∧ n ≤ q ∧ Hid (BytesAt wr A l) ∧ Hid (validD l = true) ∧ Hid (Only (fun _ => False) w wr))
                      case atStart => exact ⟨_, l3, q, rfl, HL, by omega, by omega, HS, HV, HO⟩
                      case round =>
                        clear HS HV HO HL l3 c16z c16 hk0 hq0
                        obtain ⟨A, l, n, rfl, HL, hg2, hnq, HS, HV, HO⟩ := hrel
                        by_cases c32 : 32 < n
                        · obtain ⟨z, rfl⟩ : ∃ z, n = z + 32 := ⟨n - 32, by omega⟩
                          obtain ⟨g3, rfl⟩ : ∃ g3, gk = g3 + 1 := ⟨gk - 1, by omega⟩
                          obtain ⟨g, off, rfl⟩ := HS.out.some (by rw [HL.out]; omega)
                          have c32z : (32 : Int) < (z : Int) + 32 := by omega
                          have s8u : (8 : Int) ≤ (z : Int) + 32 := by omega
                          have s16u : (16 : Int) ≤ (z : Int) + 32 := by omega
                          have s24u : (24 : Int) ≤ (z : Int) + 32 := by omega
                          have HB : Hid (∀ kk, kk + 8 ≤ 32 → ∀ W A' nn cc, A' = off + kk → 8 ≤ nn → BytesAt W (some ⟨g, off, none⟩) l → Calls Tryz.prog 60 #[.slice (some ⟨g, A', none⟩) nn cc] W fun e w' => e = .returned (.int .u64 (W8 l kk : Nat)) ∧ ∃ q, w' = W.drewN q) := hid fun kk hkk W A' nn cc hA hn hb => wordAt g off kk _ _ l W hb (by rw [HL.out]; omega) hn A' hA
                          have HB0 := hid (HB.out 0 (by omega))
                          have HB1 := hid (HB.out 8 (by omega))
                          have HB2 := hid (HB.out 16 (by omega))
                          have HB3 := hid (HB.out 24 (by omega))
                          have lB0 := W8_lt l 0
                          have lB1 := W8_lt l 8
                          have lB2 := W8_lt l 16
                          have lB3 := W8_lt l 24
                          have k3 : ((W8 l 0 ||| W8 l 8) ||| (W8 l 16 ||| W8 l 24)) &&& 9259542123273814144 = 0 → validD (l.drop 32) = true := fun h0' => by
                            obtain ⟨e01, e23⟩ := (Lib.or_mask _ _ _).1 h0'
                            obtain ⟨e0, e1⟩ := (Lib.or_mask _ _ _).1 e01
                            obtain ⟨e2, e3⟩ := (Lib.or_mask _ _ _).1 e23
                            have v1 := HV.out
                            rw [ascii_skip 8 l (by simpa using W8_asc l 0 (by rw [HL.out]; omega) e0), ascii_skip 8 (l.drop 8) (W8_asc l 8 (by rw [HL.out]; omega) e1), List.drop_drop, ascii_skip 8 (l.drop (8 + 8)) (W8_asc l 16 (by rw [HL.out]; omega) e2), List.drop_drop, ascii_skip 8 (l.drop (8 + 8 + 8)) (W8_asc l 24 (by rw [HL.out]; omega) e3), List.drop_drop] at v1
                            exact v1
                          clear HB
                          generalize W8 l 0 = B0 at HB0 lB0 k3
                          generalize W8 l 8 = B1 at HB1 lB1 k3
                          generalize W8 l 16 = B2 at HB2 lB2 k3
                          generalize W8 l 24 = B3 at HB3 lB3 k3
                          have ho1 : bits .or .u64 (B0 : Int) (B1 : Int) = ((B0 ||| B1 : Nat) : Int) := u64_or_nat B0 B1 lB0 lB1
                          have ho2 : bits .or .u64 (B2 : Int) (B3 : Int) = ((B2 ||| B3 : Nat) : Int) := u64_or_nat B2 B3 lB2 lB3
                          have lo1 : B0 ||| B1 < 18446744073709551616 := Nat.or_lt_two_pow (n := 64) lB0 lB1
                          have lo2 : B2 ||| B3 < 18446744073709551616 := Nat.or_lt_two_pow (n := 64) lB2 lB3
                          have ho3 : bits .or .u64 ((B0 ||| B1 : Nat) : Int) ((B2 ||| B3 : Nat) : Int) = (((B0 ||| B1) ||| (B2 ||| B3) : Nat) : Int) := u64_or_nat _ _ lo1 lo2
                          have lo3 : (B0 ||| B1) ||| (B2 ||| B3) < 18446744073709551616 := Nat.or_lt_two_pow (n := 64) lo1 lo2
                          have hand3 : bits .and .u64 (((B0 ||| B1) ||| (B2 ||| B3) : Nat) : Int) 9259542123273814144 = ((((B0 ||| B1) ||| (B2 ||| B3)) &&& 9259542123273814144 : Nat) : Int) := u64_and_nat _ 9259542123273814144 lo3 (by omega)
                          obtain ⟨P1, hP1⟩ : ∃ P1, B0 ||| B1 = P1 := ⟨_, rfl⟩
                          obtain ⟨P2, hP2⟩ : ∃ P2, B2 ||| B3 = P2 := ⟨_, rfl⟩
                          rw [hP1, hP2] at ho3 hand3 k3
                          rw [hP1] at ho1
                          rw [hP2] at ho2
                          obtain ⟨P3, hP3⟩ : ∃ P3, P1 ||| P2 = P3 := ⟨_, rfl⟩
                          rw [hP3] at ho3 hand3 k3
                          obtain ⟨Z3, hZ3⟩ : ∃ Z3, P3 &&& 9259542123273814144 = Z3 := ⟨_, rfl⟩
                          rw [hZ3] at hand3 k3
                          have K3 := hid k3
                          clear k3 lB0 lB1 lB2 lB3 lo1 lo2 lo3 hP1 hP2 hP3 hZ3
                          by_cases hz3 : Z3 = 0
                          · as_aux_lemma =>
                              have hz3b : ((Z3 : Int) == 0) = true := by simp [hz3]
                              go_wp2_with fail
                              go_quiet (first | (go_at_call_of 60 (off + (24 : Nat)); refine Calls.quiet_of (HB3.out _ _ _ _ rfl (by omega) (HS.out.only (Only.drewN (Only.refl _ _) _)))) | (go_at_call_of 60 (off + (16 : Nat)); refine Calls.quiet_of (HB2.out _ _ _ _ rfl (by omega) (HS.out.only (Only.drewN (Only.refl _ _) _)))) | (go_at_call_of 60 (off + (8 : Nat)); refine Calls.quiet_of (HB1.out _ _ _ _ rfl (by omega) (HS.out.only (Only.drewN (Only.refl _ _) _)))) | (go_at_call_of 60 off; refine Calls.quiet_of (HB0.out _ _ _ _ rfl (by omega) (HS.out.only (Only.drewN (Only.refl _ _) _)))))
                              go_wp2
                              go_roundg g3
                              case measure => omega
                              case rel => exact ⟨_, l.drop 32, z, rfl, hid (by rw [List.length_drop, HL.out]; omega), by omega, by omega, hid ((HS.out.only (Only.drewN (Only.refl _ _) nq)).skip 32), hid (K3.out hz3), hid (HO.out.drewN nq)⟩
                          · as_aux_lemma =>
                              have hz3b : ((Z3 : Int) == 0) = false := by simp; omega
                              go_wp2_with fail
                              go_quiet (first | (go_at_call_of 60 (off + (24 : Nat)); refine Calls.quiet_of (HB3.out _ _ _ _ rfl (by omega) (HS.out.only (Only.drewN (Only.refl _ _) _)))) | (go_at_call_of 60 (off + (16 : Nat)); refine Calls.quiet_of (HB2.out _ _ _ _ rfl (by omega) (HS.out.only (Only.drewN (Only.refl _ _) _)))) | (go_at_call_of 60 (off + (8 : Nat)); refine Calls.quiet_of (HB1.out _ _ _ _ rfl (by omega) (HS.out.only (Only.drewN (Only.refl _ _) _)))) | (go_at_call_of 60 off; refine Calls.quiet_of (HB0.out _ _ _ _ rfl (by omega) (HS.out.only (Only.drewN (Only.refl _ _) _)))))
                              go_wp2
                              go_roundg g'
                              case measure => omega
                              case rel => exact ⟨_, l, z + 32, rfl, HL, by omega, by omega, hid (HS.out.only (Only.drewN (Only.refl _ _) nq)), HV, hid (HO.out.drewN nq)⟩
                        · have c32b : decide ((32 : Int) < (n : Int)) = false := by simp; omega
                          go_wp2_with fail
                          go_quiet (fail)
                          go_wp2
                          go_roundg g'
                          case measure => omega
                          case rel => exact ⟨_, l, n, rfl, HL, by omega, by omega, hid (HS.out.only (Only.drewN (Only.refl _ _) nq)), HV, hid (HO.out.drewN nq)⟩
                  · as_aux_lemma =>
                      have hz2b : ((Z2 : Int) == 0) = false := by simp; omega
                      go_quiet (first | (go_at_call_of 60 (off + (1 : Nat) + (8 : Nat) + (8 : Nat)); refine Calls.quiet_of (HW3.out _ _ _ _ (by omega) (by omega) (HS.out.only (Only.drewN (Only.refl _ _) _)))) | (go_at_call_of 60 (off + (1 : Nat) + (8 : Nat)); refine Calls.quiet_of (HW2.out _ _ (by omega) (HS.out.only (Only.drewN (Only.refl _ _) _)))))
                      go_wp2
                      go_roundg g'
                      case measure => omega
                      case rel => exact ⟨_, l2, q + 16, rfl, HL, by omega, by omega, hid (HS.out.only (Only.drewN (Only.refl _ _) nq)), HV, hid (HO.out.drewN nq)⟩
                · have c16b : decide ((16 : Int) < (k : Int)) = false := by simp; omega
                  go_quiet (fail)
                  go_wp2
                  go_roundg g'
                  case measure => omega
                  case rel => exact ⟨_, l2, k, rfl, HL, by omega, by omega, hid (HS.out.only (Only.drewN (Only.refl _ _) nq)), HV, hid (HO.out.drewN nq)⟩
            · as_aux_lemma =>
                have hz1b : ((Z1 : Int) == 0) = false := by simp; omega
                go_wp2_with (go_at_call 60; refine (HW.out _ _ ?_ ?_).mono ?_; rfl; exact HS.out; rintro e w1 ⟨rfl, q1, rfl⟩)
                go_roundg g'
                case measure => omega
                case rel =>
                  refine ⟨_, l.drop 1, k + 8, rfl, hid (by rw [List.length_drop, HL.out]; omega), by omega, by omega, hid ((HS.out.only (Only.drewN (Only.refl _ _) q1)).skip 1), hid (HV1.out hasc), hid (HO.out.drewN q1)⟩
          · have c8b : decide ((8 : Int) < (m : Int)) = false := by simp; omega
            have hb1 : (1 : Int) ≤ (m : Int) + 1 := by omega
            rcases Nat.eq_zero_or_pos m with rfl | hm0
            all_goals
              go_wp2
              go_roundg g'
              case measure => omega
              case rel =>
                refine ⟨_, l.drop 1, _, rfl, hid (by have := HL.out; rw [List.length_drop]; omega), by omega, by omega, hid (HS.out.skipIf 1 _ HL.out _ ?_), hid (HV1.out hasc), HO⟩
                intro hm
                first
                  | rfl
                  | (rw [if_neg hm])
                  | (exfalso; omega)
      · have hge : 128 ≤ x0.toNat := by omega
        have hascz : ¬ ((x0.toNat : Int) < 128) := by omega
        obtain ⟨kk, hkk, hX8, hkn, hlo, hhi, h3, h4, hvk, hX256⟩ := lead_cases l (by rw [HX0.out]; exact hge) (by rw [HL.out]; omega) HV.out
        rw [HX0.out] at hX8 hlo hhi hX256
        rw [HL.out] at hkn
        have hTr := utf8_only HT.out HO.out
        have hc0 := hTr.1 x0.toNat x0.toNat_lt
        generalize Lib.firstT x0.toNat = X at hX8 hlo hhi hX256 hc0
        have ha0 : wr.cell? ⟨2, X / 16 * 2, none⟩ = some (.int .u8 (Lib.accLo (X / 16))) := by rw [Nat.mul_comm]; exact (hTr.2 (X / 16) (by omega)).1
        have ha1 : wr.cell? ⟨2, X / 16 * 2 + 1, none⟩ = some (.int .u8 (Lib.accHi (X / 16))) := by rw [Nat.mul_comm]; exact (hTr.2 (X / 16) (by omega)).2
        generalize Lib.accLo (X / 16) = LO at hlo ha0
        generalize Lib.accHi (X / 16) = HI at hhi ha1
        have h7 := Go.Proofs.and7 ⟨X, hX256⟩
        simp only [hX8] at h7
        have c1 := (HS.out.only (Only.alloc (Only.refl _ _) (.cells #[.int .u8 (LO : Int), .int .u8 (HI : Int)] 82))).cell 1 (by rw [HL.out]; omega)
        generalize (l.getD 1 0).toNat = b1 at hlo hhi c1
        have hx256 : (x0.toNat : Int) < 256 := by have := x0.toNat_lt; omega
        have hx256n : x0.toNat < 256 := x0.toNat_lt
        have hX16 : (X : Int) / 16 < 16 := by omega
        have hX16n : X / 16 < 16 := by omega
        have q1z : ¬ b1 < LO := by omega
        have q2z : ¬ HI < b1 := by omega
        have HVK := hid hvk
        clear hTr hvk hlo hhi HV1 HX0 HV
        rcases hkk with rfl | rfl | rfl
        · as_aux_lemma =>
            obtain ⟨q, rfl⟩ : ∃ q, m = q + 1 := ⟨m - 1, by omega⟩
            have qn : ¬ ((q : Int) + 1 + 1 < 2) := by omega
            have qk : (2 : Int) ≤ (q : Int) + 1 + 1 := by omega
            have qi1 : (1 : Int) < (q : Int) + 1 + 1 := by omega
            clear h3 h4
            rcases Nat.eq_zero_or_pos q with rfl | hm0
            all_goals
              go_wp2
              have l0 : (wr.alloc (.cells #[.int .u8 (LO : Int), .int .u8 (HI : Int)] 82)).cell? ⟨wr.heap.size, 0, none⟩ = some (.int .u8 (LO : Int)) := by go_simp
              have l1 : (wr.alloc (.cells #[.int .u8 (LO : Int), .int .u8 (HI : Int)] 82)).cell? ⟨wr.heap.size, 1, none⟩ = some (.int .u8 (HI : Int)) := by go_simp
              have hoa : Hid (Only (fun _ => False) wr (wr.alloc (.cells #[.int .u8 (LO : Int), .int .u8 (HI : Int)] 82))) := hid (Only.alloc (Only.refl _ _) _)
              generalize wr.alloc (.cells #[.int .u8 (LO : Int), .int .u8 (HI : Int)] 82) = wa at c1 l0 l1 hoa ⊢
              generalize wr.heap.size = wz at l0 l1 ⊢
              go_quiet (fail)
              go_wp2
              go_roundg g'
              case measure => omega
              case rel =>
                refine ⟨_, l.drop 2, _, rfl, hid (by have := HL.out; rw [List.length_drop]; omega), by omega, by omega, hid ((HS.out.only (hoa.out.drewN nq)).skipIf 2 _ HL.out _ ?_), HVK, hid ((HO.out.trans hoa.out).drewN nq)⟩
                intro hm
                first
                  | rfl
                  | (rw [if_neg hm])
                  | (exfalso; omega)
        · as_aux_lemma =>
            obtain ⟨q, rfl⟩ : ∃ q, m = q + 2 := ⟨m - 2, by omega⟩
            obtain ⟨b2l, b2h⟩ := h3 (by omega)
            have c2 := (HS.out.only (Only.alloc (Only.refl _ _) (.cells #[.int .u8 (LO : Int), .int .u8 (HI : Int)] 82))).cell 2 (by rw [HL.out]; omega)
            generalize (l.getD 2 0).toNat = b2 at b2l b2h c2
            have q3z : ¬ b2 < 128 := by omega
            have q3y : ¬ ((b2 : Int) < 128) := by omega
            have q3x : decide ((b2 : Int) < 128) = false := by simp; omega
            have q4z : ¬ 191 < b2 := by omega
            have q4y : ¬ ((191 : Int) < (b2 : Int)) := by omega
            have q4x : decide ((191 : Int) < (b2 : Int)) = false := by simp; omega
            have qn : ¬ ((q : Int) + 2 + 1 < 3) := by omega
            have qk : (3 : Int) ≤ (q : Int) + 2 + 1 := by omega
            have qi1 : (1 : Int) < (q : Int) + 2 + 1 := by omega
            have qi2 : (2 : Int) < (q : Int) + 2 + 1 := by omega
            clear h3 h4
            rcases Nat.eq_zero_or_pos q with rfl | hm0
            all_goals
              go_wp2
              have l0 : (wr.alloc (.cells #[.int .u8 (LO : Int), .int .u8 (HI : Int)] 82)).cell? ⟨wr.heap.size, 0, none⟩ = some (.int .u8 (LO : Int)) := by go_simp
              have l1 : (wr.alloc (.cells #[.int .u8 (LO : Int), .int .u8 (HI : Int)] 82)).cell? ⟨wr.heap.size, 1, none⟩ = some (.int .u8 (HI : Int)) := by go_simp
              have hoa : Hid (Only (fun _ => False) wr (wr.alloc (.cells #[.int .u8 (LO : Int), .int .u8 (HI : Int)] 82))) := hid (Only.alloc (Only.refl _ _) _)
              generalize wr.alloc (.cells #[.int .u8 (LO : Int), .int .u8 (HI : Int)] 82) = wa at c1 c2 l0 l1 hoa ⊢
              generalize wr.heap.size = wz at l0 l1 ⊢
              go_quiet (fail)
              go_wp2
              go_roundg g'
              case measure => omega
              case rel =>
                refine ⟨_, l.drop 3, _, rfl, hid (by have := HL.out; rw [List.length_drop]; omega), by omega, by omega, hid ((HS.out.only (hoa.out.drewN nq)).skipIf 3 _ HL.out _ ?_), HVK, hid ((HO.out.trans hoa.out).drewN nq)⟩
                intro hm
                first
                  | rfl
                  | (rw [if_neg hm])
                  | (exfalso; omega)
        · as_aux_lemma =>
            obtain ⟨q, rfl⟩ : ∃ q, m = q + 3 := ⟨m - 3, by omega⟩
            obtain ⟨b2l, b2h⟩ := h3 (by omega)
            have c2 := (HS.out.only (Only.alloc (Only.refl _ _) (.cells #[.int .u8 (LO : Int), .int .u8 (HI : Int)] 82))).cell 2 (by rw [HL.out]; omega)
            generalize (l.getD 2 0).toNat = b2 at b2l b2h c2
            have q3z : ¬ b2 < 128 := by omega
            have q3y : ¬ ((b2 : Int) < 128) := by omega
            have q3x : decide ((b2 : Int) < 128) = false := by simp; omega
            have q4z : ¬ 191 < b2 := by omega
            have q4y : ¬ ((191 : Int) < (b2 : Int)) := by omega
            have q4x : decide ((191 : Int) < (b2 : Int)) = false := by simp; omega
            obtain ⟨b3l, b3h⟩ := h4 (by omega)
            have c3 := (HS.out.only (Only.alloc (Only.refl _ _) (.cells #[.int .u8 (LO : Int), .int .u8 (HI : Int)] 82))).cell 3 (by rw [HL.out]; omega)
            generalize (l.getD 3 0).toNat = b3 at b3l b3h c3
            have q5z : ¬ b3 < 128 := by omega
            have q5y : ¬ ((b3 : Int) < 128) := by omega
            have q5x : decide ((b3 : Int) < 128) = false := by simp; omega
            have q6z : ¬ 191 < b3 := by omega
            have q6y : ¬ ((191 : Int) < (b3 : Int)) := by omega
            have q6x : decide ((191 : Int) < (b3 : Int)) = false := by simp; omega
            have qn : ¬ ((q : Int) + 3 + 1 < 4) := by omega
            have qk : (4 : Int) ≤ (q : Int) + 3 + 1 := by omega
            have qi1 : (1 : Int) < (q : Int) + 3 + 1 := by omega
            have qi2 : (2 : Int) < (q : Int) + 3 + 1 := by omega
            have qi3 : (3 : Int) < (q : Int) + 3 + 1 := by omega
            clear h3 h4
            rcases Nat.eq_zero_or_pos q with rfl | hm0
            all_goals
              go_wp2
              have l0 : (wr.alloc (.cells #[.int .u8 (LO : Int), .int .u8 (HI : Int)] 82)).cell? ⟨wr.heap.size, 0, none⟩ = some (.int .u8 (LO : Int)) := by go_simp
              have l1 : (wr.alloc (.cells #[.int .u8 (LO : Int), .int .u8 (HI : Int)] 82)).cell? ⟨wr.heap.size, 1, none⟩ = some (.int .u8 (HI : Int)) := by go_simp
              have hoa : Hid (Only (fun _ => False) wr (wr.alloc (.cells #[.int .u8 (LO : Int), .int .u8 (HI : Int)] 82))) := hid (Only.alloc (Only.refl _ _) _)
              generalize wr.alloc (.cells #[.int .u8 (LO : Int), .int .u8 (HI : Int)] 82) = wa at c1 c2 c3 l0 l1 hoa ⊢
              generalize wr.heap.size = wz at l0 l1 ⊢
              go_quiet (fail)
              go_wp2
              go_roundg g'
              case measure => omega
              case rel =>
                refine ⟨_, l.drop 4, _, rfl, hid (by have := HL.out; rw [List.length_drop]; omega), by omega, by omega, hid ((HS.out.only (hoa.out.drewN nq)).skipIf 4 _ HL.out _ ?_), HVK, hid ((HO.out.trans hoa.out).drewN nq)⟩
                intro hm
                first
                  | rfl
                  | (rw [if_neg hm])
                  | (exfalso; omega)
    · go_wp2
      go_ret
      exact ⟨rfl, HO.out⟩
end Go.Proofs.YtbgckolcimlofaaGreatDoor
