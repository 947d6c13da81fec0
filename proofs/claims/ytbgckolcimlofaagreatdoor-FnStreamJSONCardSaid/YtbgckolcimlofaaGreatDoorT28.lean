/-
  rwInt and rwUint; where a written number lies ahead.
-/
import Derived.Test.YtbgckolcimlofaaGreatDoorProg
import Derived.Test.YtbgckolcimlofaaGreatDoorT27
import Derived.Test.YtbgckolcimlofaaGreatDoorT24
import Derived.Deep.RegionHeld3
import Derived.Deep.QuietTactic
import Derived.BigQuiet
set_option linter.unusedVariables false
set_option linter.unusedSimpArgs false
namespace Go.Proofs.YtbgckolcimlofaaGreatDoor
open Go.RowKit YtbgckolcimlofaaGreatDoorPj

theorem nilWS (a : Addr) (w : World) : (nilAhead 396 49 (.pointer (some a)) "WriteString").run Tryz.prog w = .ok (some false) w := by kernel_rfl

def TabAt (w : World) : Prop := Lib.TabIs Tryz.prog w "internal/strconv.uint64pow10" .u64 Lib.pow10Tab
/-- The library's tables stand as long as only blocks of X and new ones turn. -/
def LibHere (X : Nat → Prop) (w0 : World) : Prop := ∀ w, Only X w0 w → TabAt w ∧ DecCall w
theorem LibHere.next {X : Nat → Prop} {w0 w1 : World} (h : LibHere X w0) (ho : Only X w0 w1) : LibHere (fun k => X k ∨ w0.heap.size ≤ k) w1 := fun w hw => h w (ho.trans' hw fun i hi e => by rcases e with e | e; exact e; omega)

/-- The text is told a row. -/
theorem write_row (t : Nat) (p : Value) (bs : List UInt8) (G : Nat → Prop) (out : List UInt8) (w0 w : World) (h : Wrote G t out w0 w) (hl : out.length ≤ 70368744177664) (hp : Row w 0 p bs) (h0 : 0 < bs.length) (hbs : bs.length ≤ 1000000) :
    Calls Tryz.prog 196 #[.pointer (some ⟨t, 0, none⟩), p] w (TxtPost G t (out ++ bs) (.tuple #[.int .i64 (bs.length : Nat), .nilIface]) w0) := by
  obtain ⟨G1, h, n1, o1⟩ := h
  obtain ⟨v, c0, hr, hk⟩ := h.ex
  rcases hp.open with ⟨_, e⟩ | ⟨g, cap, rfl, _, _, hc1, hc2, hb⟩
  · rw [e] at h0; simp at h0
  have HB : Hid (∀ j (hj : j < bs.length), w.cell? ((⟨g, 0, none⟩ : Addr).add j) = some (u8v bs[j])) := hid fun j hj => by rw [Addr.add_lit, Nat.zero_add]; exact hb j hj
  generalize hL : bs.length = L at hc1 h0 hbs ⊢
  have HL := hid hL
  have HH := hid h
  have HR := hid hr
  have HK := hid hk
  have HN := hid n1
  have HO := hid o1
  have htl := h.lt t h.gt
  have hf0 := h.fz
  have C0 := hid c0
  clear h hr hk n1 o1 hL hb hp hc2
  go_enter Tryz.func196, Tryz.ntmps196
  go_wp2_with (at_builtin; refine row_append rfl _ _ rfl 0 v _ rfl HR.out _ _ _ bs rfl HL.out HB.out (by have := HL.out; omega) (by omega) ?_; intro v' w1 r1 r2 r3; obtain ⟨A', n', c', rfl⟩ := r1.isSlice; have R1 := hid r1; have R2 := hid r2; have R3 := hid r3; have htn : ¬ v.ownBlock = some t := (fun e => (HK.out t e).2 rfl); have k0 := ((Only.of_grown r2).cell (o := 0) htl htn).trans c0; have kf := ((Only.of_grown r2).frozen (o := 0) htl htn).trans hf0; clear r1 r2 r3 htn)
  go_ret2
  refine ⟨rfl, Wrote.step HN.out HO.out (HH.out.grown C0.out HK.out R2.out R1.out fun k e => ?_)⟩
  rcases R3.out with h | h
  · exact Or.inl (h ▸ e)
  · rw [h] at e
    injection e with e
    exact Or.inr (by omega)
theorem JsTo.row {w0 w : World} {X : Nat → Prop} {m s t d : Nat} {all out : List UInt8} (h : JsTo X m s t d all out w0 w) (p : Value) (bs : List UInt8) (hp : Row w 0 p bs) (h0 : 0 < bs.length) (hbs : bs.length ≤ 1000000) (hl : out.length ≤ 70368744177664) :
    Calls Tryz.prog 196 #[.pointer (some ⟨t, 0, none⟩), p] w fun e w' => e = .returned (.tuple #[.int .i64 (bs.length : Nat), .nilIface]) ∧ JsTo X m s t d all (out ++ bs) w0 w' ∧ ∀ o, w'.cell? ⟨m, o, none⟩ = w.cell? ⟨m, o, none⟩ := by
  obtain ⟨F, G, v, xs, h1, h2, h3, h4, h5, h6, h7⟩ := h.js.ex
  refine (write_row t p bs G out w w (Wrote.start h2) hl hp h0 hbs).mono fun e w' ⟨he, hw⟩ => ⟨he, h.trans (h.js.wrote h1 h2 h3 h4 h5 h6 h7 hw), fun o => hw.cell h.js.lt fun e => (h7 m e).2 rfl⟩
/-- The scratch room, and what a row that has grown in it leaves. -/
theorem JsTo.scratch {w0 w : World} {X : Nat → Prop} {m s t d : Nat} {all out : List UInt8} (h : JsTo X m s t d all out w0 w) : ∃ A n cap, w.cell? ⟨m, 1, none⟩ = some (.slice A n cap) ∧ w.frozen? ⟨m, 1, none⟩ = false ∧ (A = none → cap = 0) ∧ n ≤ cap ∧ cap ≤ maxLen ∧ m < w.heap.size ∧ Row w 0 (.slice A 0 cap) [] ∧
    (∀ k, (Value.slice A 0 cap).ownBlock = some k → (X k ∨ w0.heap.size ≤ k) ∧ k ≠ m) ∧
    ∀ (w1 : World) (v' : Value) (bs : List UInt8), Row w1 0 v' bs → Only (fun k => (Value.slice A 0 cap).ownBlock = some k) w w1 → (∀ k, v'.ownBlock = some k → (Value.slice A 0 cap).ownBlock = some k ∨ w.heap.size ≤ k) →
      JsTo X m s t d all out w0 (w1.setCell ⟨m, 1, none⟩ v') ∧ Row (w1.setCell ⟨m, 1, none⟩ v') 0 v' bs := by
  obtain ⟨F, G, v, xs, h1, h2, h3, h4, h5, h6, h7⟩ := h.js.ex
  have hf1 := h.js.f1
  have hl := h.js.lt
  have hrow : ∃ A n cap, v = .slice A n cap ∧ (A = none → cap = 0) ∧ n ≤ cap ∧ cap ≤ maxLen ∧ Row w 0 (.slice A 0 cap) [] := by
    rcases h4.open with ⟨rfl, e⟩ | ⟨g, cap, rfl, _, _, hc, hc2, _⟩
    · exact ⟨none, 0, 0, rfl, fun _ => rfl, Nat.le_refl _, Nat.zero_le _, Row.nil _ _⟩
    · exact ⟨some ⟨g, 0, none⟩, xs.length, cap, rfl, (fun e => nomatch e), hc, hc2, by have := h4.cut 0 (Nat.zero_le _); simpa using this⟩
  obtain ⟨A, n, cap, rfl, hA, hn, hc, hr0⟩ := hrow
  have hob : (Value.slice A n cap).ownBlock = (Value.slice A 0 cap).ownBlock := ownBlock_len A n cap 0 cap
  rw [hob] at h5
  refine ⟨A, n, cap, h3, hf1, hA, hn, hc, hl, hr0, fun k hk => ⟨(h5 k hk).1, (h5 k hk).2.1⟩, fun w1 v' bs hr ho hv => ?_⟩
  have hm : ¬ (Value.slice A 0 cap).ownBlock = some m := fun e => (h5 m e).2.1 rfl
  have hvm : ¬ v'.ownBlock = some m := fun e => by
    rcases hv m e with e | e
    · exact hm e
    · omega
  have ho2 : Only (fun k => k = m) w1 (w1.setCell ⟨m, 1, none⟩ v') := Only.setCell (S := fun k => k = m) (p := ⟨m, 1, none⟩) (Only.refl _ _) (fun _ => rfl) _
  have hr2 : Row (w1.setCell ⟨m, 1, none⟩ v') 0 v' bs := hr.only ho2 fun k hk e => hvm (e ▸ hk)
  have hos := ho.size
  have k0 := (ho.cell (o := 0) hl hm).trans h.js.c0
  have k1 := (ho.cell (o := 1) hl hm).trans h3
  have k2 := (ho.cell (o := 2) hl hm).trans h.js.c2
  have k3 := (ho.cell (o := 3) hl hm).trans h.js.c3
  have k4 := (ho.cell (o := 4) hl hm).trans h.js.c4
  have k5 := (ho.cell (o := 5) hl hm).trans h.js.c5
  have g1 := (ho.frozen (o := 1) hl hm).trans hf1
  have g2 := (ho.frozen (o := 2) hl hm).trans h.js.f2
  have hsz : (w1.setCell ⟨m, 1, none⟩ v').heap.size = w1.heap.size := by simp
  refine ⟨⟨⟨⟨F, G, v', bs, (h1.only ho fun k hk e => (h5 k e).2.2.1 hk).only ho2 fun k hk e => (h6 k hk).2.2 e, (h2.only ho fun k hk e => (h5 k e).2.2.2 hk).only ho2 fun k hk e => (h7 k hk).2 e, by go_simp, hr2, fun k hk => ?_, h6, h7⟩,
    by go_simp, by go_simp, by go_simp, by go_simp, by go_simp, by go_simp, by go_simp, h.js.xm⟩, ?_⟩, hr2⟩
  · rcases hv k hk with e | e
    · exact h5 k e
    · have hs := h.only.size
      refine ⟨Or.inr (by omega), by omega, fun e2 => ?_, fun e2 => ?_⟩
      · have := h1.lt k e2; omega
      · have := h2.lt k e2; omega
  · refine (h.only.trans' ho fun i hi e => ?_).trans' ho2 fun i hi e => ?_
    · rcases (h5 i e).1 with e | e
      · exact e
      · omega
    · have e : i = m := e
      subst e
      rcases h.js.xm with e | e
      · exact e
      · omega
def ReadsInt (K : Nat) (bs : List UInt8) (v : Value) : Prop := ∀ (F : Nat → Prop) (m s : Nat) (r : List UInt8) (w : World), Went F s (bs ++ r) w w → w.cell? ⟨m, 0, none⟩ = some (.pointer (some ⟨s, 0, none⟩)) → m < w.heap.size → ¬ F m → Calls Tryz.prog K #[.pointer (some ⟨m, 0, none⟩)] w (GotW F s r (.tuple #[v, .nilIface]) w)
theorem decN_pos (n : Nat) : 0 < (decN n).length := by
  rw [decN]; split <;> simp
theorem decI_len (i : Int) (h0 : -9223372036854775808 ≤ i) (h1 : i ≤ 9223372036854775807) : 0 < (decI i).length ∧ (decI i).length ≤ 21 := by
  unfold decI
  split
  · have := dec_len (-i).toNat (by omega); simp; omega
  · exact ⟨decN_pos _, by have := dec_len i.toNat (by omega); omega⟩
set_option maxRecDepth 100000 in
set_option maxHeartbeats 2000000 in
theorem rwInt (i : Int) (hi0 : -9223372036854775808 ≤ i) (hi1 : i ≤ 9223372036854775807) (bs : List UInt8) (hrd : ReadsInt 80 bs (.int .i64 i)) (X : Nat → Prop) (m s t d : Nat) (r out : List UInt8) (w0 w : World) (h : JsTo X m s t d (bs ++ r) out w0 w) (hlib : LibHere X w0) (hl : out.length ≤ 35184372088832) :
    Calls Tryz.prog 55 #[.iface 49 (.pointer (some ⟨t, 0, none⟩)), .pointer (some ⟨m, 0, none⟩)] w (JPost X m s t d r (out ++ decI i) w0) := by
  obtain ⟨F, h1, h2, h3, h4, h5⟩ := h.reads
  have HR := hid (hrd F m s r w h1.went h4 h3 h2)
  have H5 : Hid (∀ w', Went F s r w w' → ∃ A n cap, w'.cell? ⟨m, 1, none⟩ = some (.slice A n cap) ∧ w'.frozen? ⟨m, 1, none⟩ = false ∧ (0 : Int) ≤ cap ∧ m < w'.heap.size ∧ Calls Tryz.prog 81 #[.slice A 0 cap, .int .i64 i, .int .i64 10] w' fun e w1 => ∃ A2 n2 c2, e = .returned (.slice A2 n2 c2) ∧ w1.cell? ⟨m, 1, none⟩ = some (.slice A n cap) ∧ w1.frozen? ⟨m, 1, none⟩ = false ∧ Hid (JsTo X m s t d r out w0 (w1.setCell ⟨m, 1, none⟩ (.slice A2 n2 c2)) ∧ Row (w1.setCell ⟨m, 1, none⟩ (.slice A2 n2 c2)) 0 (.slice A2 n2 c2) (decI i))) := hid (by
    intro w' hw
    have hj := h5 _ _ hw
    obtain ⟨A, n, cap, c1, f1, hA, hn, hc, hm, hr0, hX, hst⟩ := hj.scratch
    refine ⟨A, n, cap, c1, f1, by omega, hm, (appendIntP i hi0 hi1 (.slice A 0 cap) [] w' hr0 (by simp) fun w1 ho => (hlib w1 (hj.only.trans' ho fun i hi e => by rcases (hX i e).1 with e | e; exact e; omega)).1).mono ?_⟩
    rintro e w1 ⟨v', rfl, r1, r2, r3⟩
    obtain ⟨A2, n2, c2, rfl⟩ := r1.isSlice
    have hnm : ¬ (Value.slice A 0 cap).ownBlock = some m := fun e => (hX m e).2 rfl
    exact ⟨A2, n2, c2, rfl, (r2.cell hm hnm).trans c1, (r2.frozen hm hnm).trans f1, hid (hst w1 _ _ r1 r2 r3)⟩)
  have hdl := decI_len i hi0 hi1
  have HDL := hid hdl
  clear h h1 h5 hrd hlib h2 h3 h4 hdl
  have hn1 := nilW
  go_enter Tryz.func55, Tryz.ntmps55
  go_wp2_with (first
    | (go_at_call 80; refine HR.out.mono ?_; rintro e w1 ⟨rfl, h1⟩; obtain ⟨A, n, cap, c1, f1, hcp, hml, hcall⟩ := H5.out _ h1; have HC := hid hcall; clear h1 hcall)
    | (go_at_call 81; refine HC.out.mono ?_; rintro e w2 ⟨A2, n2, c2, rfl, k1, g1, hj⟩))
  have HJ := hid hj.out.1
  have HJR := hid hj.out.2
  clear hj
  have e1 : (w2.setCell ⟨m, 1, none⟩ (.slice A2 n2 c2)).cell? ⟨m, 1, none⟩ = some (.slice A2 n2 c2) := by go_simp
  generalize w2.setCell ⟨m, 1, none⟩ (.slice A2 n2 c2) = w3 at HJ HJR e1 ⊢
  clear k1 g1
  go_region_held3 (fun w' => w'.cell? ⟨m, 1, none⟩ = some (.slice A2 n2 c2)) (go_keep)
    (first
      | (go_at_call 196; go_must (refine ((HJ.out.same (Only.drew (Only.refl (fun _ => False) _))).row _ (decI i) (HJR.out.only (Only.drew (Only.refl (fun _ => False) _)) (fun _ _ e => e)) HDL.out.1 (by have := HDL.out.2; omega) (by omega)).mono ?_); rintro e w4 ⟨rfl, h4, h5⟩; have H4 := hid h4; have e4 := (h5 1).trans e1; clear h4 h5))
  go_wp2
  go_ret2
  exact ⟨_, rfl, H4.out⟩
set_option maxRecDepth 100000 in
set_option maxHeartbeats 2000000 in
theorem rwUint (i : Nat) (hi1 : i < 18446744073709551616) (bs : List UInt8) (hrd : ReadsInt 82 bs (.int .u64 (i : Nat))) (X : Nat → Prop) (m s t d : Nat) (r out : List UInt8) (w0 w : World) (h : JsTo X m s t d (bs ++ r) out w0 w) (hlib : LibHere X w0) (hl : out.length ≤ 35184372088832) :
    Calls Tryz.prog 56 #[.iface 49 (.pointer (some ⟨t, 0, none⟩)), .pointer (some ⟨m, 0, none⟩)] w (JPost X m s t d r (out ++ decN i) w0) := by
  obtain ⟨F, h1, h2, h3, h4, h5⟩ := h.reads
  have HR := hid (hrd F m s r w h1.went h4 h3 h2)
  have H5 : Hid (∀ w', Went F s r w w' → ∃ A n cap, w'.cell? ⟨m, 1, none⟩ = some (.slice A n cap) ∧ w'.frozen? ⟨m, 1, none⟩ = false ∧ (0 : Int) ≤ cap ∧ m < w'.heap.size ∧ Calls Tryz.prog 83 #[.slice A 0 cap, .int .u64 (i : Nat), .int .i64 10] w' fun e w1 => ∃ A2 n2 c2, e = .returned (.slice A2 n2 c2) ∧ w1.cell? ⟨m, 1, none⟩ = some (.slice A n cap) ∧ w1.frozen? ⟨m, 1, none⟩ = false ∧ Hid (JsTo X m s t d r out w0 (w1.setCell ⟨m, 1, none⟩ (.slice A2 n2 c2)) ∧ Row (w1.setCell ⟨m, 1, none⟩ (.slice A2 n2 c2)) 0 (.slice A2 n2 c2) (decN i))) := hid (by
    intro w' hw
    have hj := h5 _ _ hw
    obtain ⟨A, n, cap, c1, f1, hA, hn, hc, hm, hr0, hX, hst⟩ := hj.scratch
    refine ⟨A, n, cap, c1, f1, by omega, hm, (appendUintP i hi1 (.slice A 0 cap) [] w' hr0 (by simp) (hlib w' hj.only).1).mono ?_⟩
    rintro e w1 ⟨v', rfl, r1, r2, r3⟩
    obtain ⟨A2, n2, c2, rfl⟩ := r1.isSlice
    have hnm : ¬ (Value.slice A 0 cap).ownBlock = some m := fun e => (hX m e).2 rfl
    exact ⟨A2, n2, c2, rfl, (r2.cell hm hnm).trans c1, (r2.frozen hm hnm).trans f1, hid (hst w1 _ _ r1 r2 r3)⟩)
  have hdl : 0 < (decN i).length ∧ (decN i).length ≤ 20 := ⟨decN_pos i, dec_len i hi1⟩
  have HDL := hid hdl
  clear h h1 h5 hrd hlib h2 h3 h4 hdl
  have hn1 := nilW
  go_enter Tryz.func56, Tryz.ntmps56
  go_wp2_with (first
    | (go_at_call 82; refine HR.out.mono ?_; rintro e w1 ⟨rfl, h1⟩; obtain ⟨A, n, cap, c1, f1, hcp, hml, hcall⟩ := H5.out _ h1; have HC := hid hcall; clear h1 hcall)
    | (go_at_call 83; refine HC.out.mono ?_; rintro e w2 ⟨A2, n2, c2, rfl, k1, g1, hj⟩))
  have HJ := hid hj.out.1
  have HJR := hid hj.out.2
  clear hj
  have e1 : (w2.setCell ⟨m, 1, none⟩ (.slice A2 n2 c2)).cell? ⟨m, 1, none⟩ = some (.slice A2 n2 c2) := by go_simp
  generalize w2.setCell ⟨m, 1, none⟩ (.slice A2 n2 c2) = w3 at HJ HJR e1 ⊢
  clear k1 g1
  go_region_held3 (fun w' => w'.cell? ⟨m, 1, none⟩ = some (.slice A2 n2 c2)) (go_keep)
    (first
      | (go_at_call 196; go_must (refine ((HJ.out.same (Only.drew (Only.refl (fun _ => False) _))).row _ (decN i) (HJR.out.only (Only.drew (Only.refl (fun _ => False) _)) (fun _ _ e => e)) HDL.out.1 (by have := HDL.out.2; omega) (by omega)).mono ?_); rintro e w4 ⟨rfl, h4, h5⟩; have H4 := hid h4; have e4 := (h5 1).trans e1; clear h4 h5))
  go_wp2
  go_ret2
  exact ⟨_, rfl, H4.out⟩
end Go.Proofs.YtbgckolcimlofaaGreatDoor
