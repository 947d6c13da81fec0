/-
  rwMap, the whole; where the items are read.
-/
import Derived.Test.YtbgckolcimlofaaGreatDoorProg
import Derived.Test.YtbgckolcimlofaaGreatDoorT31
import Derived.Deep.LoopGhost
set_option linter.unusedVariables false
set_option linter.unusedSimpArgs false
namespace Go.Proofs.YtbgckolcimlofaaGreatDoor
open Go.RowKit YtbgckolcimlofaaGreatDoorPj

theorem Enc.get {p : P} {bs : List UInt8} (h : Enc p bs) : ∃ (hd : List UInt8) (bss : List (List UInt8)), Hd p hd ∧ bss.length = p.kids.length ∧ (∀ (i : Nat) (hi : i < p.kids.length) (hi' : i < bss.length), Enc p.kids[i] bss[i]) ∧ bs = hd ++ bss.flatten := by
  cases h with | mk _ hd bss hh hl hk => exact ⟨hd, bss, hh, hl, hk, rfl⟩
theorem Enc.leaf' {p : P} {bs : List UInt8} (h : Enc p bs) (hk : p.kids.length = 0) : Hd p bs := by
  obtain ⟨hd, bss, hh, hl, _, rfl⟩ := h.get
  have : bss = [] := List.eq_nil_of_length_eq_zero (by omega)
  subst this
  simpa using hh
theorem Hd.six {p : P} {bs : List UInt8} (h : Hd p bs) (hk : p.kind = 6) : ∃ hd, Head 160 32 p.text.size fsText hd ∧ bs = hd ++ tx p.text := by
  rcases h with ⟨h, _⟩ | ⟨h, _⟩ | ⟨⟨h, _⟩, _⟩ | ⟨h, _⟩ | ⟨_, h⟩ | ⟨h, _⟩ | ⟨h, _⟩ | ⟨h, _⟩
  · omega
  · omega
  · omega
  · rcases h with ⟨h, _⟩ | h <;> omega
  · exact h
  · omega
  · omega
  · omega
set_option maxRecDepth 100000 in
set_option maxHeartbeats 1000000 in
theorem rwMap_0 (X : Nat → Prop) (m s t d : Nat) (h r out : List UInt8) (w0 w : World) (hrd : ReadsInt 78 h (.int .u32 0)) (h0 : JsTo X m s t d (h ++ r) out w0 w) (hl : out.length ≤ 30000000000000) :
    Calls Tryz.prog 50 #[.iface 49 (.pointer (some ⟨t, 0, none⟩)), .pointer (some ⟨m, 0, none⟩)] w (JPost X m s t d r (out ++ [123, 125]) w0) := by
  have J0 := hid h0
  have HRD := hid hrd
  clear h0 hrd
  go_enter_defers Tryz.func50, Tryz.ntmps50
  go_wp2_with (first
    | (go_at_call 78; refine (J0.out.readsV HRD.out).mono ?_; rintro e w1 ⟨rfl, h1⟩; have J1 := hid h1; clear h1)
    | (go_at_call 198; refine (J1.out.str ⟨#[123, 125]⟩ (by decide) (by omega)).mono ?_; rintro e w2 ⟨rfl, h2⟩; have J2 := hid h2; clear h2))
  exact ⟨.tuple #[.int .i64 2, .nilIface], by simp [results, Tryz.results50, go_sem], _, rfl, J2.out⟩
set_option maxRecDepth 100000 in
set_option maxHeartbeats 4000000 in
theorem rwMap_n (hq : QuoteOk) (p : P) (ih : ∀ (j : Nat) (hj : j < p.kids.length), RwAt p.kids[j]) (n : Nat) (h : List UInt8) (bss : List (List UInt8)) (hk : p.kind = 9) (N : Nat) (hN : p.kids.length = 2 * N) (hN0 : 0 < N) (hrd : ReadsInt 78 h (.int .u32 (N : Nat))) (hbl : bss.length = p.kids.length)
    (hbk : ∀ (i : Nat) (hi : i < p.kids.length) (hi' : i < bss.length), Enc p.kids[i] bss[i]) (hf : Fit (n + 1) p) (hj : JOk VD p) (he : NoEmpty p) (hn : NumOk p) (X : Nat → Prop) (m s t d : Nat) (r out : List UInt8) (w0 w : World)
    (h0 : JsTo X m s t d (h ++ (bss.flatten ++ r)) out w0 w) (hlib : LibHere X w0) (hd : d + (n + 1) ≤ 1000) (hl : out.length + 1000000 * cnt p ≤ 30000000000000) :
    Calls Tryz.prog 50 #[.iface 49 (.pointer (some ⟨t, 0, none⟩)), .pointer (some ⟨m, 0, none⟩)] w (JPost X m s t d r (out ++ js p) w0) := by
  have hjs : js p = 123 :: (jsMap p.kids ++ [125]) := by rw [js_eq]; simp [hk]
  have hfew : N ≤ 2000 := by have := hf.1.few; omega
  have hNz : ((N : Int) == 0) = false := by simp; omega
  have hb := fun i hi => map_bound hf hn i hi
  have hb' := fun i => map_bound' hf hn i
  have HKID : Hid (∀ (i : Nat) (hi : 2 * i + 1 < p.kids.length) (Y : Nat → Prop) (r out : List UInt8) (w1 w2 : World), JsTo Y m s t (d + 1) ((bss.drop (2 * i + 1)).flatten ++ r) out w1 w2 → LibHere Y w1 → out.length + 1000000 * cnt p.kids[2 * i + 1] ≤ 30000000000000 →
      Calls Tryz.prog 29 #[.iface 49 (.pointer (some ⟨t, 0, none⟩)), .pointer (some ⟨m, 0, none⟩)] w2 (JPost Y m s t (d + 1) ((bss.drop (2 * i + 2)).flatten ++ r) (out ++ js p.kids[2 * i + 1]) w1)) := hid (by
    intro i hi Y r out w1 w2 hj1 hl1 ho1
    rw [flatten_drop (by omega)] at hj1
    refine ih (2 * i + 1) hi n _ (hbk (2 * i + 1) hi (by omega)) (hf.2 _ hi) ?_ ?_ (hn.get.2.2 _ hi) Y m s t (d + 1) _ out w1 w2 hj1 hl1 (by omega) ho1
    · cases hj with | mk _ _ _ _ _ hkk _ => exact hkk (Or.inr hk) _ hi
    · cases he with | mk _ _ h2 => exact h2 _ hi)
  have HKEY : Hid (∀ (i : Nat) (hi : 2 * i < p.kids.length), ∃ kb : List UInt8, (∀ r, (bss.drop (2 * i)).flatten ++ r = kb ++ ((bss.drop (2 * i + 1)).flatten ++ r)) ∧ TypeIs kb 1 ∧ KeyIs kb (tx p.kids[2 * i].text) ∧ VD (tx p.kids[2 * i].text) ∧ (tx p.kids[2 * i].text).length ≤ 131072) := hid (by
    intro i hi
    have hk6 : p.kids[2 * i].kind = 6 := by
      cases hj with | mk _ _ _ _ _ _ h9 => exact h9 hk _ hi (by omega)
    have hjk : JOk VD p.kids[2 * i] := by
      cases hj with | mk _ _ _ _ _ hkk _ => exact hkk (Or.inr hk) _ hi
    have hne : p.kids[2 * i].text.size ≠ 0 := by
      cases he with | mk _ h1 _ => exact h1 _ hi hk (by omega)
    have hpn : PNode p.kids[2 * i] := by
      have := hf.2 _ hi
      cases n with
      | zero => exact this.elim
      | succ n => exact this.1
    have hE := hbk (2 * i) hi (by omega)
    have h0 : p.kids[2 * i].kids.length = 0 := by rcases hpn.kids with h | h | h; omega; omega; exact h
    obtain ⟨hd, hh, e⟩ := (hE.leaf' h0).six hk6
    refine ⟨bss[2 * i], fun r => flatten_drop (by omega) r, ?_, ?_, ?_, by rw [tx_length]; exact hpn.short⟩
    · rw [e]; exact (text_type hh).app _
    · rw [e]; exact key_is hh hne hpn.short
    · cases hjk with | mk _ _ _ _ h6 _ _ => exact h6 hk6)
  have HRD := hid hrd
  have HB := hid hb
  have HB' := hid hb'
  have HN := hid hN
  have HJS := hid hjs
  have HLB := hid hlib
  have HL := hid hl
  have J0 := hid h0
  have hd1 : d < 100000 := by omega
  have hol : out.length ≤ 30000000000000 := by omega
  have hbl' : bss.length ≤ 2 * N := by omega
  clear hrd hb hb' hjs hlib hl h0 ih hbk hj he hn hf hk hbl hN
  go_enter_defers Tryz.func50, Tryz.ntmps50
  go_wp2_with (first
    | (go_at_call 78; refine (J0.out.readsV HRD.out).mono ?_; rintro e w1 ⟨rfl, h1⟩; have J1 := hid h1; clear h1)
    | (go_at_call 79; refine (J1.out.deeper hd1 HLB.out).mono ?_; rintro e w2 ⟨b, rfl, Y, h2, h3, h4⟩; have J2 := hid h2; have L2 := hid h3; have B2 := hid h4; clear h2 h3 h4)
    | (go_at_call 197; refine (J2.out.byte 123 (by omega)).mono ?_; rintro e w3 ⟨rfl, h3⟩; have J3 := hid h3; clear h3))
  go_loopg [4, 5, 6, 8, 11, 12, 13] N (fun gm v4 v5 v6 v8 v11 v12 v13 wr => ∃ (i : Nat) (z z2 : Int) (c : Bool), i + gm = N ∧ v4 = .int .i64 z ∧ v5 = .nilIface ∧ v11 = .int .i64 z2 ∧ v6 = .bool c ∧ v12 = .int .u32 (i : Nat) ∧ Hid (c = decide (0 < i)) ∧ Hid (JsTo Y m s t (d + 1) ((bss.drop (2 * i)).flatten ++ r) (out ++ [123] ++ jsMap (p.kids.take (2 * i))) w2 wr))
  case atStart => exact ⟨0, _, _, _, by omega, rfl, rfl, rfl, rfl, rfl, hid rfl, by simpa [jsMap] using J3⟩
  case round =>
    obtain ⟨i, z, z2, c, him, rfl, rfl, rfl, rfl, rfl, HC, HJ⟩ := hrel
    by_cases hlt : i < N
    · have hk1 : 2 * i + 1 < p.kids.length := by rw [HN.out]; omega
      have hk0 : 2 * i < p.kids.length := by omega
      have hb1 := HB.out i hk1
      obtain ⟨kb, e1, ht, hky, hv, hkl⟩ := HKEY.out i hk0
      have hqk := quote_len (tx p.kids[2 * i].text)
      have hol2 : (out ++ [123] ++ jsMap (p.kids.take (2 * i))).length ≤ 30000000000000 := by simp; have := HL.out; omega
      have hol2' : (out ++ [123] ++ jsMap (p.kids.take (2 * i)) ++ [44]).length + 6 * (tx p.kids[2 * i].text).length ≤ 35184372088832 := by simp; have := HL.out; omega
      have hol2'' : (out ++ [123] ++ jsMap (p.kids.take (2 * i))).length + 6 * (tx p.kids[2 * i].text).length ≤ 35184372088832 := by simp; have := HL.out; omega
      have hol3 : (out ++ [123] ++ jsMap (p.kids.take (2 * i)) ++ [44] ++ quote (tx p.kids[2 * i].text) ++ [58]).length + 1000000 * cnt p.kids[2 * i + 1] ≤ 30000000000000 := by simp; have := HL.out; omega
      have hol4 : (out ++ [123] ++ jsMap (p.kids.take (2 * i)) ++ quote (tx p.kids[2 * i].text) ++ [58]).length + 1000000 * cnt p.kids[2 * i + 1] ≤ 30000000000000 := by simp; have := HL.out; omega
      have H3 := hid hol3
      have H4 := hid hol4
      have H2 := hid hol2'
      have H2' := hid hol2''
      have HTY := hid ht
      have HKY := hid hky
      have HV := hid hv
      have HKI := hid (HKID.out i hk1)
      have HSN := hid (jsMap_snoc p.kids i hk1)
      rw [e1] at HJ
      clear hb1 hol3 hol4 hol2' hol2'' e1 ht hky hv hqk
      cases c with
      | true =>
        have hi0 : 0 < i := by have := HC.out; simpa using this.symm
        go_wp2_with (first
          | (go_at_call 197; refine (HJ.out.byte 44 (by omega)).mono ?_; rintro e w4 ⟨rfl, h4⟩; have J4 := hid h4; clear h4; clear HJ)
          | (go_at_call 40; refine (HTY.out _ _ _ _ _ _ _ _ _ J4.out).mono ?_; rintro e w5 ⟨rfl, h5⟩; have J5 := hid h5; clear h5)
          | (go_at_call 84; refine (HKY.out _ _ _ _ _ _ _ _ _ J5.out).mono ?_; rintro e w6 ⟨v, rfl, h6, h7⟩; have J6 := hid h7; clear h6 h7)
          | (go_at_call 74; go_must (refine (J6.out.quoted hq L2.out H2.out HV.out).mono ?_); rintro e w7 ⟨z7, rfl, h7⟩; have J7 := hid h7; clear h7)
          | (go_at_call 197; refine (J7.out.byte 58 (by have := H3.out; simp at this ⊢; omega)).mono ?_; rintro e w8 ⟨rfl, h8⟩; have J8 := hid h8; clear h8)
          | (go_at_call 29; refine (HKI.out Y r _ _ _ J8.out L2.out H3.out).mono ?_; rintro e w9 ⟨z9, rfl, h9⟩; have J9 := hid h9; clear h9))
        go_roundg (gk - 1)
        case measure => omega
        case rel => exact ⟨i + 1, _, _, _, by omega, rfl, rfl, rfl, rfl, by go_num, hid (by simp), hid (by have := J9.out; rw [show 2 * (i + 1) = 2 * i + 2 by omega, HSN.out, if_pos hi0]; simpa [jsPair] using this)⟩
      | false =>
        have hi0 : ¬ 0 < i := by have := HC.out; simpa using this.symm
        go_wp2_with (first
          | (go_at_call 40; refine (HTY.out _ _ _ _ _ _ _ _ _ HJ.out).mono ?_; rintro e w5 ⟨rfl, h5⟩; have J5 := hid h5; clear h5; clear HJ)
          | (go_at_call 84; refine (HKY.out _ _ _ _ _ _ _ _ _ J5.out).mono ?_; rintro e w6 ⟨v, rfl, h6, h7⟩; have J6 := hid h7; clear h6 h7)
          | (go_at_call 74; go_must (refine (J6.out.quoted hq L2.out H2'.out HV.out).mono ?_); rintro e w7 ⟨z7, rfl, h7⟩; have J7 := hid h7; clear h7)
          | (go_at_call 197; refine (J7.out.byte 58 (by have := H4.out; simp at this ⊢; omega)).mono ?_; rintro e w8 ⟨rfl, h8⟩; have J8 := hid h8; clear h8)
          | (go_at_call 29; refine (HKI.out Y r _ _ _ J8.out L2.out H4.out).mono ?_; rintro e w9 ⟨z9, rfl, h9⟩; have J9 := hid h9; clear h9))
        go_roundg (gk - 1)
        case measure => omega
        case rel => exact ⟨i + 1, _, _, _, by omega, rfl, rfl, rfl, rfl, by go_num, hid (by simp), hid (by have := J9.out; rw [show 2 * (i + 1) = 2 * i + 2 by omega, HSN.out, if_neg hi0]; simpa [jsPair] using this)⟩
    · obtain rfl : i = N := by omega
      have hol2 : (out ++ [123] ++ jsMap (p.kids.take (2 * i))).length ≤ 30000000000000 := by have := HB'.out (2 * i); simp; have := HL.out; omega
      go_wp2_with (go_at_call 197; refine (HJ.out.byte 125 (by omega)).mono ?_; rintro e w4 ⟨rfl, h4⟩; have J4 := hid h4; clear h4)
      obtain ⟨k1, hj1⟩ := B2.out _ _ _ _ J4.out
      have k2 := hj1.js.c2
      have k3 := hj1.js.f2
      refine leaves_cons (f := 106) (args := #[.pointer (some ⟨b, 0, none⟩)]) (by simp) (by simp [go_sem]) ?_
      refine (done_d m d b .returning _ k1 k2 k3 hd1).mono ?_
      rintro e u' w'' ⟨rfl, rfl, rfl⟩
      have hj2 := hj1.depth (d' := d)
      refine ⟨.tuple #[.int .i64 (wrap64 (z + 1)), .nilIface], by simp [results, Tryz.results50, go_sem], _, rfl, ?_⟩
      have e1 : p.kids.take (2 * i) = p.kids := List.take_of_length_le (by rw [HN.out]; exact Nat.le_refl _)
      have e2 : bss.drop (2 * i) = [] := List.drop_eq_nil_of_le (by omega)
      rw [HJS.out]
      rw [e1, e2] at hj2
      simpa using hj2
end Go.Proofs.YtbgckolcimlofaaGreatDoor
