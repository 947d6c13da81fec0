/-
  The parser: runes in a quoted text; where the tables of utf8 are laid.
  The parser: the state of the text; no conditions.
-/
import Derived.Test.YtbgckolcimlofaaGreatDoorProg
import Derived.Test.YtbgckolcimlofaaGreatDoorT42
import Derived.Test.YtbgckolcimlofaaGreatDoorT43
set_option linter.unusedVariables false
set_option linter.unusedSimpArgs false
namespace Go.Proofs.YtbgckolcimlofaaGreatDoor
open Go.RowKit YtbgckolcimlofaaGreatDoorPj

/-- What an escape is read as. -/
def EscIs (x bs : List UInt8) : Prop := ∀ (w : World) (j : Nat) (s : ByteArray) (at_ : Nat) (r : List UInt8), Jt w j s at_ → Ahead s at_ (x ++ r) → Calls Tryz.prog 43 #[.pointer (some ⟨j, 0, none⟩)] w (EscPost bs w j s (at_ + x.length))
theorem esc_sign (c d : UInt8) (hc : (c.toNat = 34 ∧ d.toNat = 34) ∨ (c.toNat = 92 ∧ d.toNat = 92) ∨ (c.toNat = 110 ∧ d.toNat = 10) ∨ (c.toNat = 114 ∧ d.toNat = 13) ∨ (c.toNat = 116 ∧ d.toNat = 9)) : EscIs [c] [d] :=
  fun w j s at_ r h ha => escape_sign w j s at_ h c d r ha hc
def dg4 (a b c d : Nat) : Nat → Nat
  | 0 => a
  | 1 => b
  | 2 => c
  | _ => d
theorem hv_dg4 (a b c d : Nat) : hv (dg4 a b c d) 4 = 16 * (16 * (16 * a + b) + c) + d := by simp [hv, dg4]
theorem esc_hex4 (a b c d : Nat) (ha : a < 16) (hb : b < 16) (hc : c < 16) (hd : d < 16) (bs : List UInt8) (h1 : 16 * (16 * (16 * a + b) + c) + d < 55296) (hr : RuneIs (16 * (16 * (16 * a + b) + c) + d) bs) : EscIs [117, hexd a, hexd b, hexd c, hexd d] bs := by
  intro w j s at_ r h hA
  refine escape_hex w j s at_ h (dg4 a b c d) (fun k hk => ?_) r hA bs (by rw [hv_dg4]; exact h1) (by rw [hv_dg4]; exact hr)
  have : k = 0 ∨ k = 1 ∨ k = 2 ∨ k = 3 := by omega
  rcases this with rfl | rfl | rfl | rfl
  · exact ha
  · exact hb
  · exact hc
  · exact hd
theorem rune_small (b : UInt8) (h : b.toNat < 128) : RuneIs b.toNat [b] := by
  refine ⟨by omega, by omega, ?_⟩
  unfold Lib.runeCells
  rw [Lib.encodeRuneZ_one (by omega) (by omega)]
  rfl
theorem rune_sep (k : Nat) (hk : k = 56 ∨ k = 57) : RuneIs (8176 + k) [226, 128, UInt8.ofNat (k + 112)] := by
  rcases hk with rfl | rfl
  · refine ⟨by omega, by omega, ?_⟩
    unfold Lib.runeCells
    rw [Lib.encodeRuneZ_three (by omega)]
    rfl
  · refine ⟨by omega, by omega, ?_⟩
    unfold Lib.runeCells
    rw [Lib.encodeRuneZ_three (by omega)]
    rfl
/-- The next piece. -/
theorem un_next {J t : List UInt8} (h : Un J t) : (J = [] ∧ t = []) ∨ (∃ b j' t', J = b :: j' ∧ t = b :: t' ∧ Un j' t' ∧ 32 ≤ b.toNat ∧ b.toNat ≠ 34 ∧ b.toNat ≠ 92) ∨
    (∃ x j' bs t', J = 92 :: (x ++ j') ∧ t = bs ++ t' ∧ Un j' t' ∧ 0 < bs.length ∧ bs.length ≤ 3 ∧ bs.length ≤ x.length ∧ EscIs x bs) := by
  cases h with
  | nil => exact Or.inl ⟨rfl, rfl⟩
  | plain b j t h1 h2 h3 h => exact Or.inr (Or.inl ⟨b, j, t, rfl, rfl, h, h1, h2, h3⟩)
  | sign c d j t hc h => exact Or.inr (Or.inr ⟨[c], j, [d], t, rfl, rfl, h, by simp, by simp, by simp, esc_sign c d hc⟩)
  | hex b j t hb h =>
    refine Or.inr (Or.inr ⟨[117, hexd 0, hexd 0, hexd (b.toNat / 16), hexd (b.toNat % 16)], j, [b], t, rfl, rfl, h, by simp, by simp, by simp, ?_⟩)
    refine esc_hex4 0 0 _ _ (by decide) (by decide) (by omega) (by omega) _ (by omega) ?_
    have e : 16 * (16 * (16 * 0 + 0) + b.toNat / 16) + b.toNat % 16 = b.toNat := by omega
    rw [e]
    exact rune_small b (by omega)
  | sep k hk j t h =>
    refine Or.inr (Or.inr ⟨[117, hexd 2, hexd 0, hexd 2, hexd (k - 48)], j, [226, 128, UInt8.ofNat (k + 112)], t, ?_, rfl, h, by simp, by simp, by simp, ?_⟩)
    · rcases hk with rfl | rfl <;> rfl
    · refine esc_hex4 2 0 2 _ (by decide) (by decide) (by decide) (by omega) _ (by omega) ?_
      have e : 16 * (16 * (16 * 2 + 0) + 2) + (k - 48) = 8176 + k := by omega
      rw [e]
      exact rune_sep k hk
end Go.Proofs.YtbgckolcimlofaaGreatDoor
namespace Go.Proofs.YtbgckolcimlofaaGreatDoor
open Go.RowKit YtbgckolcimlofaaGreatDoorPj

def TextPost (t : List UInt8) (w : World) (j : Nat) (s : ByteArray) (n : Nat) (e : Ending) (w' : World) : Prop := e = .returned (.string ⟨t.toArray⟩) ∧ Moved w j s n w'
theorem Row.neq {w : World} {B : Nat} {v : Value} {xs : List UInt8} (h : Row w B v xs) {n : Nat} (hn : xs.length = n) (h0 : 0 < n) : ∃ g cap, v = .slice (some ⟨g, 0, none⟩) n cap ∧ ∀ j (hj : j < xs.length), w.cell? ((⟨g, 0, none⟩ : Addr).add j) = some (u8v xs[j]) := by
  subst hn
  rcases h.open with ⟨rfl, rfl⟩ | ⟨g, cap, rfl, _, _, _, _, hc⟩
  · simp at h0
  · exact ⟨g, cap, rfl, fun j hj => by rw [Addr.add_lit, Nat.zero_add]; exact hc j hj⟩
theorem Row.at {w : World} {B : Nat} {A : Option Addr} {n cap : Nat} {xs : List UInt8} (h : Row w B (.slice A n cap) xs) : BytesAt w A xs := by
  rcases h.open with ⟨e, rfl⟩ | ⟨g, c, e, _, _, _, _, hc⟩
  · exact BytesAt.nil _ _
  · injection e with e _ _
    exact fun j hj => ⟨g, 0, e, by rw [Nat.zero_add]; exact hc j hj⟩
theorem Row.bytes {w : World} {B : Nat} {v : Value} {xs : List UInt8} (h : Row w B v xs) : ∃ A cap, v = .slice A xs.length cap ∧ xs.length ≤ cap ∧ BytesAt w A xs := by
  rcases h.open with ⟨rfl, rfl⟩ | ⟨g, cap, rfl, _, _, h1, _, hc⟩
  · exact ⟨none, 0, rfl, Nat.le_refl _, BytesAt.nil _ _⟩
  · exact ⟨_, cap, rfl, h1, fun j hj => ⟨g, 0, rfl, by rw [Nat.zero_add]; exact hc j hj⟩⟩
set_option maxRecDepth 100000 in
set_option maxHeartbeats 16000000 in
theorem readText (w : World) (j : Nat) (s : ByteArray) (at_ : Nat) (h : Jt w j s at_) (J t post : List UInt8) (hu : Un J t) (ha : Ahead s at_ (34 :: (J ++ 34 :: post))) (hv : Lib.validD t = true) (hT : Lib.Utf8Tabs 1 2 w) :
    Calls Tryz.prog 36 #[.pointer (some ⟨j, 0, none⟩)] w (TextPost t w j s (at_ + J.length + 2)) := by
  obtain ⟨hl, hsb, ha1⟩ := ha.cons
  have HJ := hid h
  have hj1 : j ≠ 1 := fun e => by subst e; have := hT.1 0 (by omega); rw [h.c0] at this; simp at this
  have hj2 : j ≠ 2 := fun e => by subst e; have := (hT.2 0 (by omega)).1; rw [Nat.mul_zero, h.c0] at this; simp at this
  have HTT : Hid (∀ n w1, Moved w j s n w1 → Lib.Utf8Tabs 1 2 w1) := hid fun n w1 hm =>
    ⟨fun c hc => (hm.1.cell (World.block_lt_of_cell? w _ (hT.1 c hc)) (fun e => hj1 e.symm)).trans (hT.1 c hc), fun i hi => ⟨(hm.1.cell (World.block_lt_of_cell? w _ (hT.2 i hi).1) (fun e => hj2 e.symm)).trans (hT.2 i hi).1, (hm.1.cell (World.block_lt_of_cell? w _ (hT.2 i hi).2) (fun e => hj2 e.symm)).trans (hT.2 i hi).2⟩⟩
  have HV := hid hv
  have hjl := h.lt
  obtain ⟨c0, c1, c2, f1, le, big⟩ := h
  have H0 : Hid (∀ {z : Int}, z = (at_ : Int) + 1 → Moved w j s (at_ + 1) (w.setCell ⟨j, 1, none⟩ (.int .i64 z))) := hid fun hz => Moved.set HJ.out (Only.refl _ _) _ (by omega) (by omega)
  have HA := hid ha1
  have HU := hid hu
  have hbig := big
  have hl0 : at_ + 1 + J.length + 1 + post.length = s.size := by
    have h1 := ha1.1
    have h2 : ((tx s).drop (at_ + 1)).length = s.size - (at_ + 1) := by rw [List.length_drop, tx_length]
    rw [h1] at h2
    simp at h2
    omega
  clear hsb ha ha1 hu hv hT hj1 hj2
  go_enter Tryz.func36, Tryz.ntmps36
  go_wp2
  go_loopg [3, 4] (J.length + 1) (fun gm v3 v4 wr => ∃ (J' t1 t2 : List UInt8) (atq : Nat), Hid (Un J' t2) ∧ Hid (t = t1 ++ t2) ∧ Hid (Ahead s atq (J' ++ 34 :: post)) ∧ Hid (Row wr w.heap.size v3 t1) ∧ Hid (Moved w j s atq wr) ∧ J'.length < gm ∧ atq + J'.length = at_ + 1 + J.length ∧ t1.length + J'.length ≤ J.length)
  case atStart => exact ⟨J, [], t, at_ + 1, HU, hid rfl, HA, hid (Row.nil _ _), hid (H0.out rfl), by omega, by omega, by simp⟩
  case round =>
    clear c0 c1 c2 f1 le hl HU HA H0
    obtain ⟨J', t1, t2, atq, HU, HTE, HA, HR, HM, hgm, hat, ht1⟩ := hrel
    obtain ⟨c0, c1, c2, f1, le, big'⟩ := HM.out.2
    rcases un_next HU.out with ⟨rfl, rfl⟩ | ⟨b, j', t', rfl, rfl, hu', hb1, hb2, hb3⟩ | ⟨x, j', bs, t', rfl, rfl, hu', hbs0, hbs3, hx0, hx⟩
    · obtain ⟨hl1, hsb1, ha2⟩ := HA.out.cons
      have d1 : decide ((atq : Int) < s.size) = true := by simp; omega
      have d2 : (atq : Int) < s.size := by omega
      have d3 : (0 : Int) ≤ atq := by omega
      have hx : (((s[atq]'hl1).toNat : Nat) : Int) = 34 := by rw [hsb1]; rfl
      obtain ⟨A, cap, rfl, hc1, -⟩ := HR.out.bytes
      have hcap : cap ≤ 9223372036854775807 := by
        rcases HR.out.open with ⟨e, _⟩ | ⟨g, c, e, _, _, _, hm, _⟩
        · injection e with _ _ e; omega
        · injection e with _ _ e; unfold maxLen at hm; omega
      have HMM : Hid (∀ nq {z : Int}, z = (atq : Int) + 1 → Moved wr j s (atq + 1) ((wr.drewN nq).setCell ⟨j, 1, none⟩ (.int .i64 z))) := hid fun nq z hz => Moved.set HM.out.2 (Only.drewN (Only.refl _ _) nq) _ (by omega) (by omega)
      have HRR : Hid (∀ w2, Only (fun k => k = j) wr w2 → Row w2 w.heap.size (.slice A t1.length cap) t1) := hid fun w2 ho => HR.out.only ho fun k hk e => by have := (HR.out.block hk).1; omega
      have HVT : Hid (Lib.validD t1 = true) := hid (by have := HV.out; rw [HTE.out, List.append_nil] at this; exact this)
      have HTE2 : Hid (t = t1) := hid (by rw [HTE.out, List.append_nil])
      have HM0 := HM
      clear hsb1 HR HM HTE HV
      generalize hn1 : t1.length = n1 at hc1 HRR
      have HN1 := hid hn1
      clear hn1
      go_wp2
      go_quiet (fail)
      go_wp2
      go_quiet (fail)
      go_wp2_with (first
        | (go_at_call 42; refine (validBytes _ A t1 n1 cap HN1.out hc1 hcap (HRR.out _ (HMM.out _ rfl).1).at HVT.out (HTT.out _ _ ⟨HM0.out.1.trans (HMM.out _ rfl).1, (HMM.out _ rfl).2⟩)).mono ?_; rintro e w2 ⟨rfl, h2⟩; have H2 := hid h2; clear h2)
        | (refine row_string rfl _ rfl w.heap.size _ t1 rfl ?_ ?_; exact HRR.out _ ((HMM.out _ rfl).1.trans (H2.out.mono fun _ _ h => h.elim))))
      go_ret
      refine ⟨by rw [HTE2.out]; rfl, (HM0.out.1.trans (HMM.out _ rfl).1).trans (H2.out.mono fun _ _ h => h.elim), ?_⟩
      have e : at_ + J.length + 2 = atq + 1 := by simp at hat; omega
      rw [e]
      exact (HMM.out _ rfl).2.only H2.out (fun h => h)
    · obtain ⟨hl1, hsb1, ha2⟩ := HA.out.cons
      have HA2 := hid ha2
      have d1 : decide ((atq : Int) < s.size) = true := by simp; omega
      have d2 : (atq : Int) < s.size := by omega
      have d3 : (0 : Int) ≤ atq := by omega
      have hx : (((s[atq]'hl1).toNat : Nat) : Int) = (b.toNat : Int) := by rw [hsb1]
      have e1 : ((b.toNat : Int) == 34) = false := by simp; omega
      have e2 : decide ((b.toNat : Int) < 32) = false := by simp; omega
      have e3 : ((b.toNat : Int) == 92) = false := by simp; omega
      have HMM : Hid (∀ nq {z : Int}, z = (atq : Int) + 1 → Moved wr j s (atq + 1) ((wr.drewN nq).setCell ⟨j, 1, none⟩ (.int .i64 z))) := hid fun nq z hz => Moved.set HM.out.2 (Only.drewN (Only.refl _ _) nq) _ (by omega) (by omega)
      have HRR : Hid (∀ w2, Only (fun k => k = j) wr w2 → Row w2 w.heap.size u3 t1) := hid fun w2 ho => HR.out.only ho fun k hk e => by have := (HR.out.block hk).1; omega
      have hv3 : ∀ k, u3.ownBlock = some k → w.heap.size ≤ k := fun k hk => (HR.out.block hk).1
      have HV3 := hid hv3
      have hws := HM.out.1.size
      have HM0 := HM
      have HU' := hid hu'
      have hlt1 : t1.length + 1 ≤ 1099511627776 := by simp at ht1; omega
      have hjv : ¬ u3.ownBlock = some j := fun e => by have := hv3 j e; omega
      clear hsb1 HR HM hb1 hb2 hb3 hu' HU HA ha2 hv3
      go_wp2
      go_quiet (fail)
      go_wp2
      go_quiet (fail)
      go_wp2_with (at_builtin; refine row_append1 rfl _ _ rfl w.heap.size u3 t1 rfl (HRR.out _ (HMM.out _ rfl).1) b rfl (by simp) rfl (by omega) (by simp; omega) ?_; intro v' w1 r1 r2 r3; have R1 := hid r1; have R2 := hid r2; have hm2 := (HMM.out _ rfl).2.only (Only.of_grown r2) hjv; have k2 := hm2.c2; have M2 := hid hm2; clear r1 r2 r3 hm2)
      go_roundg (gk - 1)
      case measure => omega
      case rel =>
        refine ⟨j', t1 ++ [b], t', atq + 1, HU', hid (by rw [HTE.out]; simp), HA2, R1, hid ⟨?_, M2.out⟩, by simp at hgm; omega, by simp at hat; omega, by simp at ht1 ⊢; omega⟩
        exact (HM0.out.1.trans (HMM.out _ rfl).1).grown R2.out fun k hk hkw => by have := HV3.out k hk; omega
    · obtain ⟨hl1, hsb1, ha2⟩ := HA.out.cons
      have hx92 : (((s[atq]'hl1).toNat : Nat) : Int) = 92 := by rw [hsb1]; rfl
      have HA1 : Hid (Ahead s (atq + 1) (x ++ (j' ++ 34 :: post))) := hid (by simpa using ha2)
      have HA2 : Hid (Ahead s (atq + 1 + x.length) (j' ++ 34 :: post)) := hid (Ahead.app x HA1.out)
      have hn2 : atq + 1 + x.length ≤ s.size := HA2.out.2
      have d1 : decide ((atq : Int) < s.size) = true := by simp; omega
      have d2 : (atq : Int) < s.size := by omega
      have d3 : (0 : Int) ≤ atq := by omega
      have HMM : Hid (∀ nq {z : Int}, z = (atq : Int) + 1 → Moved wr j s (atq + 1) ((wr.drewN nq).setCell ⟨j, 1, none⟩ (.int .i64 z))) := hid fun nq z hz => Moved.set HM.out.2 (Only.drewN (Only.refl _ _) nq) _ (by omega) (by omega)
      have HRR : Hid (∀ w2, Only (fun k => k = j) wr w2 → Row w2 w.heap.size u3 t1) := hid fun w2 ho => HR.out.only ho fun k hk e => by have := (HR.out.block hk).1; omega
      have hv3 : ∀ k, u3.ownBlock = some k → w.heap.size ≤ k := fun k hk => (HR.out.block hk).1
      have HV3 := hid hv3
      have hws := HM.out.1.size
      have HM0 := HM
      have HU' := hid hu'
      have HX := hid hx
      have hlt1 : t1.length + 3 ≤ 1099511627776 := by simp at ht1; omega
      have hjv : ¬ u3.ownBlock = some j := fun e => by have := hv3 j e; omega
      clear hsb1 HR HM hu' HU HA ha2 hv3 hx
      go_wp2
      go_quiet (fail)
      go_wp2
      go_quiet (fail)
      go_wp2_with (first
        | (go_at_call 43; refine (HX.out _ j s (atq + 1) _ (HMM.out _ rfl).2 HA1.out).mono ?_; rintro e w2 ⟨ve, rfl, h2, h3⟩; obtain ⟨ge, ce, rfl, h4⟩ := h2.neq (n := bs.length) rfl hbs0; have H2 := hid h2; have H3 := hid h3; have H4 := hid h4; clear h2 h3 h4)
        | (at_builtin; refine row_append rfl _ _ rfl w.heap.size u3 t1 rfl (HRR.out _ ((HMM.out _ rfl).1.trans H3.out.1)) ⟨ge, 0, none⟩ bs.length ce bs rfl rfl H4.out (by omega) ?_ ?_; (have := ((HMM.out _ rfl).1.trans H3.out.1).size; omega); intro v' w1 r1 r2 r3; have R1 := hid r1; have R2 := hid r2; have hm2 := H3.out.2.only (Only.of_grown r2) hjv; have k2 := hm2.c2; have M2 := hid hm2; clear r1 r2 r3 hm2))
      go_roundg (gk - 1)
      case measure => omega
      case rel =>
        refine ⟨j', t1 ++ bs, t', atq + 1 + x.length, HU', hid (by rw [HTE.out]; simp), HA2, R1, hid ⟨?_, M2.out⟩, by simp at hgm; omega, by simp at hat; omega, by simp at ht1 ⊢; omega⟩
        exact ((HM0.out.1.trans (HMM.out _ rfl).1).trans H3.out.1).grown R2.out fun k hk hkw => by have := HV3.out k hk; omega
end Go.Proofs.YtbgckolcimlofaaGreatDoor
