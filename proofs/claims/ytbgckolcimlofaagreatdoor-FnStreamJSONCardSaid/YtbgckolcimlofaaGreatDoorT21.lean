/-
  asJSON, the first part: what JSON turns a value into; under the value predicate.
-/
import Derived.Test.YtbgckolcimlofaaGreatDoorProg
import Derived.Test.YtbgckolcimlofaaGreatDoorT01
import Derived.Deep.QuietTactic
import Derived.BigQuiet
import Derived.Deep.LoopGhost
import Derived.Deep.DeepCutAuto
import Derived.Handy
import Derived.StillTailTactics
import Derived.Deep.RegionHeld3
import Derived.Deep.RegionLaw
import Derived.Test.YtbgckolcimlofaaGreatDoorT16
import Derived.Test.YtbgckolcimlofaaGreatDoorT17
import Derived.Test.YtbgckolcimlofaaGreatDoorT18
import Derived.Lib.ValidU
set_option linter.unusedVariables false
set_option linter.unusedSimpArgs false
namespace Go.Proofs.YtbgckolcimlofaaGreatDoor
open Go.RowKit YtbgckolcimlofaaGreatDoorPj

def V8 (l : List UInt8) : Prop := Go.Lib.validD l = true
theorem b64_len (l : List UInt8) : (b64 l).length ≤ 4 * l.length := by
  induction l using b64.induct <;> simp [b64] <;> omega
/-- 'utf8.ValidString' answers from here on. -/
def ValidAt (w : World) : Prop := ∀ (t : ByteArray) (w1 : World), Only (fun _ => False) w w1 → t.size ≤ 1000000 → Calls Tryz.prog 17 #[.string t] w1 fun e w' => ∃ b, e = .returned (.bool b) ∧ Only (fun _ => False) w1 w' ∧ (b = true → V8 (tx t))
theorem ValidAt.only {w w' : World} (h : ValidAt w) (ho : Only (fun _ => False) w w') : ValidAt w' := fun t w1 h1 ht => h t w1 (ho.trans h1) ht
theorem as_keep {wr w1 : World} {H B : Nat} {vv : Value} {ps : List P} {q : P} {cs ds : List Value} {t : TypeId} (hr : PRow wr (H + 3) (fun k => k < B ∨ H + 3 ≤ k) vv ps) (h1 : Only (fun _ => False) (wr.alloc (.cells cs.toArray t)) w1)
    (hB : B ≤ H) (hH : H + 2 < wr.heap.size) (h2 : IsPk w1 (fun k => k < B ∨ (wr.alloc (.cells cs.toArray t)).heap.size ≤ k) q ds) (o : Obj) :
    IsPk (w1.alloc o) (fun k => (k < B ∨ H + 3 ≤ k) ∧ vv.ownBlock ≠ some k) q ds := by
  refine h2.keep fun k hk hok => ⟨⟨?_, fun e => ?_⟩, (Only.alloc (Only.refl (fun _ => False) w1) o).block k hk (fun h => h)⟩
  · rcases hok with h | h
    · exact Or.inl h
    · right; simp at h; omega
  · have := hr.block e
    rcases hok with h | h
    · omega
    · simp at h; omega
theorem as_sets5 {w1 : World} {H : Nat} (x0 x1 x2 x3 x4 : Value) : Only (fun k => k = H + 1) w1 (((((w1.setCell ⟨H + 1, 0, none⟩ x0).setCell ⟨H + 1, 1, none⟩ x1).setCell ⟨H + 1, 2, none⟩ x2).setCell ⟨H + 1, 3, none⟩ x3).setCell ⟨H + 1, 4, none⟩ x4) :=
  (((((Only.refl (fun k => k = H + 1) w1).setCell (fun _ => rfl) _).setCell (fun _ => rfl) _).setCell (fun _ => rfl) _).setCell (fun _ => rfl) _).setCell (fun _ => rfl) _
theorem as_sets {w w1 : World} (h : Only (fun _ => False) w w1) (x0 x1 x2 x3 x4 : Value) : Only (fun _ => False) w (((((w1.setCell ⟨w.heap.size + 1, 0, none⟩ x0).setCell ⟨w.heap.size + 1, 1, none⟩ x1).setCell ⟨w.heap.size + 1, 2, none⟩ x2).setCell ⟨w.heap.size + 1, 3, none⟩ x3).setCell ⟨w.heap.size + 1, 4, none⟩ x4) :=
  h.trans' (as_sets5 x0 x1 x2 x3 x4) fun i hi e => by have e : i = w.heap.size + 1 := e; omega
/-- What 'AsJSON' leaves. -/
def AsPost (B : Nat) (p : P) (w : World) (e : Ending) (w' : World) : Prop :=
  ∃ b k n t x A len cap, e = .returned (.tuple #[.agg #[.int .i64 k, .int .u64 n, .string t, .int .i64 x, .slice A len cap], .bool b]) ∧ Only (fun _ => False) w w' ∧
    (b = true → JOk V8 p ∧ IsPk w' (fun k => k < B ∨ w.heap.size ≤ k) (asj p) [.int .i64 k, .int .u64 n, .string t, .int .i64 x, .slice A len cap])
def AsIH (B : Nat) (ks : List P) : Prop :=
  ∀ (j : Nat) (hj : j < ks.length) (cs : List Value) (w : World), IsPack w B ks[j] cs → B ≤ w.heap.size → ValidAt w → Calls Tryz.prog 8 #[.agg cs.toArray] w (AsPost B ks[j] w)

set_option maxRecDepth 100000 in
set_option maxHeartbeats 1000000 in
theorem asJSON_0 (p : P) (cs : List Value) (B : Nat) (w : World) (h : IsPack w B p cs) (hB : B ≤ w.heap.size) (hp : PNode p) (hk : p.kind = 0) :
    Calls Tryz.prog 8 #[.agg cs.toArray] w (AsPost B p w) := by
  have H := hid h
  obtain ⟨A, cap, rfl, hlen, hks⟩ := h.open
  have HP := hid hp
  have HK := hid hk
  rw [hk] at H ⊢
  clear h hp hks hk
  generalize hL : p.kids.length = L at *
  have HL := hid hL
  clear hL
  go_enter Tryz.func8, Tryz.ntmps8
  go_wp2
  refine bodyPost_ret (v := .tuple #[.agg #[.int .i64 0, .int .u64 p.num, .string p.text, .int .i64 p.ext, .slice A L cap], .bool true]) (by simp [results, Tryz.results8, go_sem]) rfl ?_
  refine ⟨true, _, _, _, _, _, _, _, rfl, by simp, fun _ => ⟨.mk p (by rw [HK.out]; decide) (by rw [HK.out]; decide) (by rw [HK.out]; decide) (by rw [HK.out]; intro h; exact absurd h (by decide)) (by rw [HK.out]; intro h; exact absurd h (by decide)) (by rw [HK.out]; intro h; exact absurd h (by decide)), ?_⟩⟩
  rw [asj_o p (by rw [HK.out]; decide) (by rw [HK.out]; decide) (by rw [HK.out]; decide)]
  refine IsPk.keep H.out fun k hk hlt => ⟨Or.inl hlt, ?_⟩
  exact (show Only (fun _ => False) w _ by simp).block k hk (fun h => h)
  --⟩

set_option maxRecDepth 100000 in
set_option maxHeartbeats 1000000 in
theorem asJSON_1 (p : P) (cs : List Value) (B : Nat) (w : World) (h : IsPack w B p cs) (hB : B ≤ w.heap.size) (hp : PNode p) (hk : p.kind = 1) :
    Calls Tryz.prog 8 #[.agg cs.toArray] w (AsPost B p w) := by
  have H := hid h
  obtain ⟨A, cap, rfl, hlen, hks⟩ := h.open
  have HP := hid hp
  have HK := hid hk
  rw [hk] at H ⊢
  clear h hp hks hk
  generalize hL : p.kids.length = L at *
  have HL := hid hL
  clear hL
  go_enter Tryz.func8, Tryz.ntmps8
  go_wp2
  refine bodyPost_ret (v := .tuple #[.agg #[.int .i64 1, .int .u64 p.num, .string p.text, .int .i64 p.ext, .slice A L cap], .bool true]) (by simp [results, Tryz.results8, go_sem]) rfl ?_
  refine ⟨true, _, _, _, _, _, _, _, rfl, by simp, fun _ => ⟨.mk p (by rw [HK.out]; decide) (by rw [HK.out]; decide) (by rw [HK.out]; decide) (by rw [HK.out]; intro h; exact absurd h (by decide)) (by rw [HK.out]; intro h; exact absurd h (by decide)) (by rw [HK.out]; intro h; exact absurd h (by decide)), ?_⟩⟩
  rw [asj_o p (by rw [HK.out]; decide) (by rw [HK.out]; decide) (by rw [HK.out]; decide)]
  refine IsPk.keep H.out fun k hk hlt => ⟨Or.inl hlt, ?_⟩
  exact (show Only (fun _ => False) w _ by simp).block k hk (fun h => h)
  --⟩

set_option maxRecDepth 100000 in
set_option maxHeartbeats 1000000 in
theorem asJSON_2 (p : P) (cs : List Value) (B : Nat) (w : World) (h : IsPack w B p cs) (hB : B ≤ w.heap.size) (hp : PNode p) (hk : p.kind = 2) :
    Calls Tryz.prog 8 #[.agg cs.toArray] w (AsPost B p w) := by
  have H := hid h
  obtain ⟨A, cap, rfl, hlen, hks⟩ := h.open
  have HP := hid hp
  have HK := hid hk
  rw [hk] at H ⊢
  clear h hp hks hk
  generalize hL : p.kids.length = L at *
  have HL := hid hL
  clear hL
  go_enter Tryz.func8, Tryz.ntmps8
  go_wp2
  refine bodyPost_ret (v := .tuple #[.agg #[.int .i64 2, .int .u64 p.num, .string p.text, .int .i64 p.ext, .slice A L cap], .bool true]) (by simp [results, Tryz.results8, go_sem]) rfl ?_
  refine ⟨true, _, _, _, _, _, _, _, rfl, by simp, fun _ => ⟨.mk p (by rw [HK.out]; decide) (by rw [HK.out]; decide) (by rw [HK.out]; decide) (by rw [HK.out]; intro h; exact absurd h (by decide)) (by rw [HK.out]; intro h; exact absurd h (by decide)) (by rw [HK.out]; intro h; exact absurd h (by decide)), ?_⟩⟩
  rw [asj_o p (by rw [HK.out]; decide) (by rw [HK.out]; decide) (by rw [HK.out]; decide)]
  refine IsPk.keep H.out fun k hk hlt => ⟨Or.inl hlt, ?_⟩
  exact (show Only (fun _ => False) w _ by simp).block k hk (fun h => h)
  --⟩

set_option maxRecDepth 100000 in
set_option maxHeartbeats 1000000 in
theorem asJSON_3 (p : P) (cs : List Value) (B : Nat) (w : World) (h : IsPack w B p cs) (hB : B ≤ w.heap.size) (hp : PNode p) (hk : p.kind = 3) :
    Calls Tryz.prog 8 #[.agg cs.toArray] w (AsPost B p w) := by
  have H := hid h
  obtain ⟨A, cap, rfl, hlen, hks⟩ := h.open
  have HP := hid hp
  have HK := hid hk
  rw [hk] at H ⊢
  clear h hp hks hk
  generalize hL : p.kids.length = L at *
  have HL := hid hL
  clear hL
  go_enter Tryz.func8, Tryz.ntmps8
  go_wp2
  refine bodyPost_ret (v := .tuple #[.agg #[.int .i64 3, .int .u64 p.num, .string p.text, .int .i64 p.ext, .slice A L cap], .bool true]) (by simp [results, Tryz.results8, go_sem]) rfl ?_
  refine ⟨true, _, _, _, _, _, _, _, rfl, by simp, fun _ => ⟨.mk p (by rw [HK.out]; decide) (by rw [HK.out]; decide) (by rw [HK.out]; decide) (by rw [HK.out]; intro h; exact absurd h (by decide)) (by rw [HK.out]; intro h; exact absurd h (by decide)) (by rw [HK.out]; intro h; exact absurd h (by decide)), ?_⟩⟩
  rw [asj_o p (by rw [HK.out]; decide) (by rw [HK.out]; decide) (by rw [HK.out]; decide)]
  refine IsPk.keep H.out fun k hk hlt => ⟨Or.inl hlt, ?_⟩
  exact (show Only (fun _ => False) w _ by simp).block k hk (fun h => h)
  --⟩

set_option maxRecDepth 100000 in
set_option maxHeartbeats 1000000 in
theorem asJSON_4 (p : P) (cs : List Value) (B : Nat) (w : World) (h : IsPack w B p cs) (hB : B ≤ w.heap.size) (hp : PNode p) (hk : p.kind = 4) :
    Calls Tryz.prog 8 #[.agg cs.toArray] w (AsPost B p w) := by
  have H := hid h
  obtain ⟨A, cap, rfl, hlen, hks⟩ := h.open
  have HP := hid hp
  have HK := hid hk
  rw [hk] at H ⊢
  clear h hp hks hk
  generalize hL : p.kids.length = L at *
  have HL := hid hL
  clear hL
  go_enter Tryz.func8, Tryz.ntmps8
  go_wp2
  refine bodyPost_ret (v := .tuple #[.agg #[.int .i64 4, .int .u64 p.num, .string p.text, .int .i64 p.ext, .slice A L cap], .bool false]) (by simp [results, Tryz.results8, go_sem]) rfl ?_
  refine ⟨false, _, _, _, _, _, _, _, rfl, by simp, by simp⟩

set_option maxRecDepth 100000 in
set_option maxHeartbeats 1000000 in
theorem asJSON_5 (p : P) (cs : List Value) (B : Nat) (w : World) (h : IsPack w B p cs) (hB : B ≤ w.heap.size) (hp : PNode p) (hk : p.kind = 5) :
    Calls Tryz.prog 8 #[.agg cs.toArray] w (AsPost B p w) := by
  have H := hid h
  obtain ⟨A, cap, rfl, hlen, hks⟩ := h.open
  have HP := hid hp
  have HK := hid hk
  rw [hk] at H ⊢
  clear h hp hks hk
  generalize hL : p.kids.length = L at *
  have HL := hid hL
  clear hL
  go_enter Tryz.func8, Tryz.ntmps8
  go_wp2
  refine bodyPost_ret (v := .tuple #[.agg #[.int .i64 5, .int .u64 p.num, .string p.text, .int .i64 p.ext, .slice A L cap], .bool false]) (by simp [results, Tryz.results8, go_sem]) rfl ?_
  refine ⟨false, _, _, _, _, _, _, _, rfl, by simp, by simp⟩

set_option maxRecDepth 100000 in
set_option maxHeartbeats 1000000 in
theorem asJSON_10 (p : P) (cs : List Value) (B : Nat) (w : World) (h : IsPack w B p cs) (hB : B ≤ w.heap.size) (hp : PNode p) (hk : p.kind = 10) :
    Calls Tryz.prog 8 #[.agg cs.toArray] w (AsPost B p w) := by
  have H := hid h
  obtain ⟨A, cap, rfl, hlen, hks⟩ := h.open
  have HP := hid hp
  have HK := hid hk
  rw [hk] at H ⊢
  clear h hp hks hk
  generalize hL : p.kids.length = L at *
  have HL := hid hL
  clear hL
  go_enter Tryz.func8, Tryz.ntmps8
  go_wp2
  refine bodyPost_ret (v := .tuple #[.agg #[.int .i64 10, .int .u64 p.num, .string p.text, .int .i64 p.ext, .slice A L cap], .bool false]) (by simp [results, Tryz.results8, go_sem]) rfl ?_
  refine ⟨false, _, _, _, _, _, _, _, rfl, by simp, by simp⟩

set_option maxRecDepth 100000 in
set_option maxHeartbeats 1000000 in
theorem asJSON_6 (p : P) (cs : List Value) (B : Nat) (w : World) (h : IsPack w B p cs) (hB : B ≤ w.heap.size) (hp : PNode p) (hk : p.kind = 6) (hv : ValidAt w) :
    Calls Tryz.prog 8 #[.agg cs.toArray] w (AsPost B p w) := by
  have H := hid h
  obtain ⟨A, cap, rfl, hlen, hks⟩ := h.open
  have HP := hid hp
  have HK := hid hk
  have HV := hid hv
  rw [hk] at H ⊢
  clear h hp hks hk hv
  generalize hL : p.kids.length = L at *
  have HL := hid hL
  clear hL
  go_enter Tryz.func8, Tryz.ntmps8
  go_wp2
  generalize hw2 : World.alloc (World.alloc w _) _ = w2
  have h6 : Five w2 w.heap.size (.int .i64 6) (.int .u64 p.num) (.string p.text) (.int .i64 p.ext) (.slice A L cap) := by rw [← hw2]; clear hw2; exact (Five.new _ _ _ _ _ _ _).only (Only.alloc (Only.refl (fun _ => False) _) _) (fun h => h)
  obtain ⟨c0, c1, c2, c3, c4, f0, f1, f2, f3, f4⟩ := h6
  have H6 : Hid (Five w2 w.heap.size (.int .i64 6) (.int .u64 p.num) (.string p.text) (.int .i64 p.ext) (.slice A L cap)) := hid ⟨c0, c1, c2, c3, c4, f0, f1, f2, f3, f4⟩
  have h5 : Five w2 (w.heap.size + 1) (.int .i64 0) (.int .u64 0) (.string ⟨#[]⟩) (.int .i64 0) (.slice none 0 0) := by rw [← hw2]; clear hw2; have := Five.new (w.alloc (.cells #[.int .i64 6, .int .u64 p.num, .string p.text, .int .i64 p.ext, .slice A L cap] 25)) (.int .i64 0) (.int .u64 0) (.string ⟨#[]⟩) (.int .i64 0) (.slice none 0 0) 25; simpa using this
  have H5 := hid h5
  clear h5
  have HO : Hid (Only (fun _ => False) w w2) := hid (by rw [← hw2]; clear hw2; simp)
  have hs2 : w2.heap.size = w.heap.size + 2 := by rw [← hw2]; clear hw2; simp
  clear hw2
  go_region_with (go_at_call 17; refine (HV.out p.text _ HO.out.drew (by have := HP.out.short; omega)).mono ?_; rintro e w1 ⟨b, rfl, h1, h2⟩; have H1 := hid h1; have H2 := hid h2; obtain ⟨c0, c1, c2, c3, c4, f0, f1, f2, f3, f4⟩ := (H5.out.only (Only.refl (fun _ => False) w2).drew (fun h => h)).only h1 (fun h => h); obtain ⟨d0, d1, d2, d3, d4, g0, g1, g2, g3, g4⟩ := (H6.out.only (Only.refl (fun _ => False) w2).drew (fun h => h)).only h1 (fun h => h); clear h1 h2)
  all_goals go_wp2
  all_goals
    refine bodyPost_ret (v := .tuple #[.agg #[.int .i64 6, .int .u64 p.num, .string p.text, .int .i64 p.ext, .slice A L cap], .bool b]) (by simp [results, Tryz.results8, go_sem, c0, c1, c2, c3, c4]) rfl ?_
    have hX : Only (fun _ => False) w w1 := HO.out.drew.trans H1.out
    have hY : ∀ (x0 x1 x2 x3 x4 : Value), Only (fun _ => False) w (((((w1.setCell ⟨w.heap.size + 1, 0, none⟩ x0).setCell ⟨w.heap.size + 1, 1, none⟩ x1).setCell ⟨w.heap.size + 1, 2, none⟩ x2).setCell ⟨w.heap.size + 1, 3, none⟩ x3).setCell ⟨w.heap.size + 1, 4, none⟩ x4) := by
      intro x0 x1 x2 x3 x4
      have q : ∀ o, (⟨w.heap.size + 1, o, none⟩ : Addr).block < w.heap.size → False := fun o h => by have h1 : w.heap.size + 1 < w.heap.size := h; omega
      exact ((((hX.setCell (q _) _).setCell (q _) _).setCell (q _) _).setCell (q _) _).setCell (q _) _
    refine ⟨b, _, _, _, _, _, _, _, rfl, hY _ _ _ _ _, fun hb => ⟨?_, ?_⟩⟩
    · exact .mk p (by rw [HK.out]; decide) (by rw [HK.out]; decide) (by rw [HK.out]; decide) (fun _ => H2.out hb) (by rw [HK.out]; intro h; exact absurd h (by decide)) (by rw [HK.out]; intro h; exact absurd h (by decide))
    · rw [asj_o p (by rw [HK.out]; decide) (by rw [HK.out]; decide) (by rw [HK.out]; decide)]
      exact IsPk.keep H.out fun k hk hlt => ⟨Or.inl hlt, (hY _ _ _ _ _).block k hk (fun h => h)⟩

set_option maxRecDepth 100000 in
set_option maxHeartbeats 1000000 in
theorem asJSON_7 (p : P) (cs : List Value) (B : Nat) (w : World) (h : IsPack w B p cs) (hB : B ≤ w.heap.size) (hp : PNode p) (hk : p.kind = 7) :
    Calls Tryz.prog 8 #[.agg cs.toArray] w (AsPost B p w) := by
  obtain ⟨A, cap, rfl, hlen, hks⟩ := h.open
  have HP := hid hp
  have HK := hid hk
  rw [hk]
  clear h hp hks hk
  generalize hL : p.kids.length = L at *
  have HL := hid hL
  clear hL
  have h5 := Five.new (w.alloc (.cells #[.int .i64 7, .int .u64 p.num, .string p.text, .int .i64 p.ext, .slice A L cap] 25)) (.int .i64 0) (.int .u64 0) (.string ⟨#[]⟩) (.int .i64 0) (.slice none 0 0) 25
  rw [Only.size_alloc] at h5
  have H5 := hid h5
  clear h5
  go_enter Tryz.func8, Tryz.ntmps8
  go_wp2_with (go_at_call 18; refine (base64 p.text _ (by have := HP.out.short; omega)).mono ?_; rintro e w1 ⟨rfl, h1⟩; have H1 := hid h1; obtain ⟨c0, c1, c2, c3, c4, f0, f1, f2, f3, f4⟩ := H5.out.only h1 (fun h => h); clear h1)
  refine bodyPost_ret (v := .tuple #[.agg #[.int .i64 6, .int .u64 0, .string ⟨(b64 (tx p.text)).toArray⟩, .int .i64 0, .slice none 0 0], .bool true]) (by simp [results, Tryz.results8, go_sem, c0, c1, c2, c3, c4]) rfl ?_
  have hX : Only (fun _ => False) w w1 := (show Only (fun _ => False) w _ by simp).trans H1.out
  have hY : ∀ (x0 x1 x2 x3 x4 : Value), Only (fun _ => False) w (((((w1.setCell ⟨w.heap.size + 1, 0, none⟩ x0).setCell ⟨w.heap.size + 1, 1, none⟩ x1).setCell ⟨w.heap.size + 1, 2, none⟩ x2).setCell ⟨w.heap.size + 1, 3, none⟩ x3).setCell ⟨w.heap.size + 1, 4, none⟩ x4) := by
    intro x0 x1 x2 x3 x4
    have q : ∀ o, (⟨w.heap.size + 1, o, none⟩ : Addr).block < w.heap.size → False := fun o h => by have h1 : w.heap.size + 1 < w.heap.size := h; omega
    exact ((((hX.setCell (q _) _).setCell (q _) _).setCell (q _) _).setCell (q _) _).setCell (q _) _
  refine ⟨true, _, _, _, _, _, _, _, rfl, hY _ _ _ _ _, fun _ => ⟨?_, ?_⟩⟩
  · exact .mk p (by rw [HK.out]; decide) (by rw [HK.out]; decide) (by rw [HK.out]; decide) (by rw [HK.out]; intro h; exact absurd h (by decide)) (by rw [HK.out]; intro h; exact absurd h (by decide)) (by rw [HK.out]; intro h; exact absurd h (by decide))
  · rw [asj_7 p HK.out]
    refine .mk 6 0 _ 0 [] none 0 (fun _ => []) (by simp) (by simp) (by simp) ?_ (fun j hj => absurd hj (by simp)) (fun h => absurd h (by simp))
    have e : (⟨(b64 (tx p.text)).toArray⟩ : ByteArray).size = (b64 (tx p.text)).length := by rw [← tx_length]; rfl
    have := b64_len (tx p.text)
    rw [tx_length] at this
    have := HP.out.short
    rw [e]
    omega
end Go.Proofs.YtbgckolcimlofaaGreatDoor
