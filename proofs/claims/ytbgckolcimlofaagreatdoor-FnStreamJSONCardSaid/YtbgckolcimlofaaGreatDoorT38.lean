/-
  stdEncoding; no conditions.
  ReadBytes, the whole; where a written block lies ahead.
  rwBytes: a block of bytes is written as base64 in quotes; where a written block lies ahead.
  The quoted text, the empty text included; for valid text.
  rwNext writes the JSON of the value that lies ahead; for every value that fits.
-/
import Derived.Test.YtbgckolcimlofaaGreatDoorProg
import Derived.Test.YtbgckolcimlofaaGreatDoorT35
import Derived.Test.YtbgckolcimlofaaGreatDoorT37
import Derived.Test.YtbgckolcimlofaaGreatDoorT25
import Derived.Test.YtbgckolcimlofaaGreatDoorT29
import Derived.Test.YtbgckolcimlofaaGreatDoorT32
set_option linter.unusedVariables false
set_option linter.unusedSimpArgs false
namespace Go.Proofs.YtbgckolcimlofaaGreatDoor
open Go.RowKit YtbgckolcimlofaaGreatDoorPj

theorem encClose (q e t : Nat) (tail : List UInt8) (G : Nat → Prop) (out : List UInt8) (w : World) (ht : Txt w G t out) (hq : EncdAt w q e t tail) (he : EncAt w e) (hn2 : tail.length ≤ 2) (hGq : ¬ G q) (hGe : ¬ G e) (heq : e ≠ q) (hl : out.length ≤ 34184372088832) :
    Calls Tryz.prog 210 #[.pointer (some ⟨q, 0, none⟩)] w (fun en w' => en = .returned .nilIface ∧ ∃ G', Txt w' G' t (out ++ b64 tail) ∧ Newer G G' w ∧ Only (fun k => G k ∨ k = q) w w') := by
  by_cases h0 : tail = []
  · subst h0
    refine (encClose_0 q e t w hq).mono ?_
    rintro en w' ⟨rfl, ho⟩
    exact ⟨rfl, G, by simpa [b64] using ht.only ho fun _ _ e => e, Newer.refl _ _, ho.mono fun _ _ e => e.elim⟩
  · exact encClose_n q e t tail G out w ht hq he _ rfl (by have := List.length_pos_iff.2 h0; omega) hn2 hGq hGe heq hl
set_option maxRecDepth 100000 in
set_option maxHeartbeats 1000000 in
theorem stdEncoding (w : World) : Calls Tryz.prog 77 #[] w (fun en w' => ∃ e, en = .returned (.pointer (some ⟨e, 0, none⟩)) ∧ e = w.heap.size ∧ Only (fun _ => False) w w' ∧ EncAt w' e) := by
  have HE := hid (newEncoding b64tab rfl (fun j hj => b64_tab ⟨j, hj⟩) w)
  go_enter Tryz.func77, Tryz.ntmps77
  go_wp2_with (go_at_call 101; go_must (refine HE.out.mono ?_); rintro en w1 ⟨e, rfl, h1, h2, h3⟩; have H1 := hid h1; have H2 := hid h2; have H3 := hid h3; clear h1 h2 h3)
  go_ret
  exact ⟨e, rfl, H1.out, H2.out, H3.out⟩
/-- The text went on, and a block that is not the reader's has turned. -/
theorem JsTo.wroteQ {w0 w w' : World} {X : Nat → Prop} {m s t d q : Nat} {all out out' : List UInt8} {F G : Nat → Prop} {v : Value} {xs : List UInt8} (h : JsTo X m s t d all out w0 w)
    (h1 : Rd w F s all) (h2 : Txt w G t out) (h3 : w.cell? ⟨m, 1, none⟩ = some v) (h4 : Row w 0 v xs) (h5 : ∀ k, v.ownBlock = some k → (X k ∨ w0.heap.size ≤ k) ∧ k ≠ m ∧ ¬ F k ∧ ¬ G k) (h6 : ∀ k, F k → (X k ∨ w0.heap.size ≤ k) ∧ ¬ G k ∧ k ≠ m) (h7 : ∀ k, G k → (X k ∨ w0.heap.size ≤ k) ∧ k ≠ m)
    (hq : w0.heap.size ≤ q) (hqF : ¬ F q) (hqm : q ≠ m) (hqv : v.ownBlock ≠ some q)
    (hw : ∃ G', Txt w' G' t out' ∧ Newer G G' w ∧ Only (fun k => G k ∨ k = q) w w') : JsTo X m s t d all out' w0 w' := by
  obtain ⟨G', k1, k2, k3⟩ := hw
  have hl := h.js.lt
  have hm : ¬ (G m ∨ m = q) := fun e => by
    rcases e with e | e
    · exact (h7 m e).2 rfl
    · exact hqm e.symm
  have hs := h.only.size
  refine ⟨⟨⟨F, G', v, xs, h1.only k3 fun k hk e => ?_, k1, (k3.cell hl hm).trans h3, h4.only k3 fun k hk e => ?_, fun k hk => ?_, fun k hk => ⟨(h6 k hk).1, fun e => ?_, (h6 k hk).2.2⟩, fun k hk => ?_⟩,
    (k3.cell hl hm).trans h.js.c0, (k3.cell hl hm).trans h.js.c2, (k3.cell hl hm).trans h.js.c3, (k3.cell hl hm).trans h.js.c4, (k3.cell hl hm).trans h.js.c5, (k3.frozen hl hm).trans h.js.f1, (k3.frozen hl hm).trans h.js.f2, h.js.xm⟩, h.only.trans' k3 fun i hi e => ?_⟩
  · rcases e with e | e
    · exact (h6 k hk).2.1 e
    · exact hqF (e ▸ hk)
  · rcases e with e | e
    · exact (h5 k hk).2.2.2 e
    · exact hqv (e ▸ hk)
  · obtain ⟨e1, e2, e3, e4⟩ := h5 k hk
    refine ⟨e1, e2, e3, fun e => ?_⟩
    rcases k2 k e with e | e
    · exact e4 e
    · have := (h4.block hk).2; omega
  · rcases k2 k e with e | e
    · exact (h6 k hk).2.1 e
    · have := h1.lt k hk; omega
  · rcases k2 k hk with e | e
    · exact h7 k e
    · exact ⟨Or.inr (by omega), by omega⟩
  · rcases e with e | e
    · rcases (h7 i e).1 with e | e
      · exact e
      · omega
    · omega
end Go.Proofs.YtbgckolcimlofaaGreatDoor
namespace Go.Proofs.YtbgckolcimlofaaGreatDoor
open Go.RowKit YtbgckolcimlofaaGreatDoorPj

theorem readBytes (content h r : List UInt8) (hh : Head (-1) 0 content.length fsBin h) (hs : content.length ≤ 131072) (F : Nat → Prop) (m s : Nat) (w : World) (hw : Went F s (h ++ (content ++ r)) w w) (c0 : w.cell? ⟨m, 0, none⟩ = some (.pointer (some ⟨s, 0, none⟩))) (c4 : w.cell? ⟨m, 4, none⟩ = some (.int .u32 1048576)) (hm : m < w.heap.size) (hF : ¬ F m)
    (A : Option Addr) (cap : Nat) (hr : Row w 0 (.slice A 0 cap) []) (hA : ∀ k, (Value.slice A 0 cap).ownBlock = some k → ¬ F k) (hcm : cap ≤ maxLen) :
    Calls Tryz.prog 75 #[.pointer (some ⟨m, 0, none⟩), .slice A 0 cap] w (fun e w' => ∃ v, e = .returned (.tuple #[v, .nilIface]) ∧ BytesPost F s A cap content r w v w') := by
  have hcase : cap < content.length ∨ (∃ g, A = some ⟨g, 0, none⟩ ∧ content.length ≤ cap) ∨ (A = none ∧ cap = 0 ∧ content.length = 0) := by
    by_cases h1 : cap < content.length
    · exact Or.inl h1
    · rcases hr.open with ⟨e, _⟩ | ⟨g, c, e, _⟩
      · injection e with e1 e2 e3
        exact Or.inr (Or.inr ⟨e1, e3, by omega⟩)
      · injection e with e1 e2 e3
        exact Or.inr (Or.inl ⟨g, e1, by omega⟩)
  rcases hh.bin with ⟨hn, rfl⟩ | ⟨hn, rfl⟩ | ⟨hn, rfl⟩
  · rcases hcase with h1 | ⟨g, rfl, h1⟩ | ⟨rfl, rfl, h1⟩
    · exact readBytes_196_new content r _ rfl hn hs F m s w hw c0 c4 hm hF A cap h1
    · exact readBytes_196_old content r _ rfl hn hs F m s w hw c0 c4 hm hF g cap h1 hcm hr (hA g rfl)
    · exact readBytes_196_nil content r _ rfl hn hs F m s w hw c0 c4 hm hF h1
  · rcases hcase with h1 | ⟨g, rfl, h1⟩ | ⟨rfl, rfl, h1⟩
    · exact readBytes_197_new content r _ rfl hn hs F m s w hw c0 c4 hm hF A cap h1
    · exact readBytes_197_old content r _ rfl hn hs F m s w hw c0 c4 hm hF g cap h1 hcm hr (hA g rfl)
    · exact readBytes_197_nil content r _ rfl hn hs F m s w hw c0 c4 hm hF h1
  · rcases hcase with h1 | ⟨g, rfl, h1⟩ | ⟨rfl, rfl, h1⟩
    · exact readBytes_198_new content r _ rfl hn hs F m s w hw c0 c4 hm hF A cap h1
    · exact readBytes_198_old content r _ rfl hn hs F m s w hw c0 c4 hm hF g cap h1 hcm hr (hA g rfl)
    · exact readBytes_198_nil content r _ rfl hn hs F m s w hw c0 c4 hm hF h1
theorem JsTo.bytes {w0 w : World} {X : Nat → Prop} {m s t d : Nat} {content h r out : List UInt8} (hj : JsTo X m s t d (h ++ (content ++ r)) out w0 w) (hh : Head (-1) 0 content.length fsBin h) (hs : content.length ≤ 131072) :
    ∃ A n0 cap, w.cell? ⟨m, 1, none⟩ = some (.slice A n0 cap) ∧ m < w.heap.size ∧ Calls Tryz.prog 75 #[.pointer (some ⟨m, 0, none⟩), .slice A 0 cap] w (fun e w1 => ∃ A' n' c', e = .returned (.tuple #[.slice A' n' c', .nilIface]) ∧ w1.cell? ⟨m, 1, none⟩ = some (.slice A n0 cap) ∧ w1.frozen? ⟨m, 1, none⟩ = false ∧
      Hid (JsTo X m s t d r out w0 (w1.setCell ⟨m, 1, none⟩ (.slice A' n' c')) ∧ Row (w1.setCell ⟨m, 1, none⟩ (.slice A' n' c')) 0 (.slice A' n' c') content)) := by
  obtain ⟨F, G, v, xs, h1, h2, h3, h4, h5, h6, h7⟩ := hj.js.ex
  have hf1 := hj.js.f1
  have hl := hj.js.lt
  have hmF : ¬ F m := fun e => (h6 m e).2.2 rfl
  have hrow : ∃ A n cap, v = .slice A n cap ∧ cap ≤ maxLen ∧ Row w 0 (.slice A 0 cap) [] := by
    rcases h4.open with ⟨rfl, e⟩ | ⟨g, cap, rfl, _, _, hc, hc2, _⟩
    · exact ⟨none, 0, 0, rfl, Nat.zero_le _, Row.nil _ _⟩
    · exact ⟨some ⟨g, 0, none⟩, xs.length, cap, rfl, hc2, by have := h4.cut 0 (Nat.zero_le _); simpa using this⟩
  obtain ⟨A, n, cap, rfl, hc, hr0⟩ := hrow
  have hob : (Value.slice A n cap).ownBlock = (Value.slice A 0 cap).ownBlock := ownBlock_len A n cap 0 cap
  rw [hob] at h5
  refine ⟨A, n, cap, h3, hl, (readBytes content h r hh hs F m s w h1.went hj.js.c0 hj.js.c4 hl hmF A cap hr0 (fun k hk => (h5 k hk).2.2.1) hc).mono ?_⟩
  rintro e w1 ⟨v', rfl, A', n', c', F', rfl, r1, r2, r3, ho, r5⟩
  have hm : ¬ (F m ∨ (Value.slice A 0 cap).ownBlock = some m) := fun e => by
    rcases e with e | e
    · exact hmF e
    · exact (h5 m e).2.1 rfl
  have hmF' : ¬ F' m := fun e => by
    rcases r3 m e with e | e
    · exact hmF e
    · omega
  have hvm : ¬ (Value.slice A' n' c').ownBlock = some m := fun e => by
    rcases (r5 m e).1 with e | e
    · exact (h5 m e).2.1 rfl
    · omega
  have ho2 : Only (fun k => k = m) w1 (w1.setCell ⟨m, 1, none⟩ (.slice A' n' c')) := Only.setCell (S := fun k => k = m) (p := ⟨m, 1, none⟩) (Only.refl _ _) (fun _ => rfl) _
  have hr2 : Row (w1.setCell ⟨m, 1, none⟩ (.slice A' n' c')) 0 (.slice A' n' c') content := r1.only ho2 fun k hk e => hvm (e ▸ hk)
  have hos := ho.size
  have hs0 := hj.only.size
  have k0 := (ho.cell (o := 0) hl hm).trans hj.js.c0
  have k1 := (ho.cell (o := 1) hl hm).trans h3
  have k2 := (ho.cell (o := 2) hl hm).trans hj.js.c2
  have k3 := (ho.cell (o := 3) hl hm).trans hj.js.c3
  have k4 := (ho.cell (o := 4) hl hm).trans hj.js.c4
  have k5 := (ho.cell (o := 5) hl hm).trans hj.js.c5
  have g1 := (ho.frozen (o := 1) hl hm).trans hf1
  have g2 := (ho.frozen (o := 2) hl hm).trans hj.js.f2
  refine ⟨A', n', c', rfl, k1, g1, hid ⟨⟨⟨⟨F', G, .slice A' n' c', content, r2.only ho2 fun k hk e => hmF' (e ▸ hk), (h2.only ho fun k hk e => ?_).only ho2 fun k hk e => (h7 k hk).2 e, by go_simp, hr2, fun k hk => ?_, fun k hk => ?_, fun k hk => h7 k hk⟩,
    by go_simp, by go_simp, by go_simp, by go_simp, by go_simp, by go_simp, by go_simp, hj.js.xm⟩, ?_⟩, hr2⟩⟩
  · rcases e with e | e
    · exact (h6 k e).2.1 hk
    · exact (h5 k e).2.2.2 hk
  · obtain ⟨e1, e2⟩ := r5 k hk
    rcases e1 with e | e
    · obtain ⟨q1, q2, q3, q4⟩ := h5 k e
      exact ⟨q1, q2, e2, q4⟩
    · refine ⟨Or.inr (by omega), by omega, e2, fun e3 => ?_⟩
      have := h2.lt k e3; omega
  · rcases r3 k hk with e | e
    · exact h6 k e
    · refine ⟨Or.inr (by omega), fun e3 => ?_, by omega⟩
      have := h2.lt k e3; omega
  · refine (hj.only.trans' ho fun i hi e => ?_).trans' ho2 fun i hi e => ?_
    · rcases e with e | e
      · rcases (h6 i e).1 with e | e
        · exact e
        · omega
      · rcases (h5 i e).1 with e | e
        · exact e
        · omega
    · have e : i = m := e
      subst e
      rcases hj.js.xm with e | e
      · exact e
      · omega
end Go.Proofs.YtbgckolcimlofaaGreatDoor
namespace Go.Proofs.YtbgckolcimlofaaGreatDoor
open Go.RowKit YtbgckolcimlofaaGreatDoorPj

theorem nilW179 (a : Addr) (w : World) : (nilAhead 396 179 (.pointer (some a)) "Write").run Tryz.prog w = .ok (some false) w := by kernel_rfl
theorem b64_ready {w0 w3 w5 : World} {X : Nat → Prop} {m s t d e q n c : Nat} {A : Option Addr} {content r out : List UInt8} (hj : JsTo X m s t d r out w0 w3) (hrow : Row w3 0 (.slice A n c) content) (hc1 : w3.cell? ⟨m, 1, none⟩ = some (.slice A n c)) (ho : Only (fun _ => False) w3 w5)
    (he : EncAt w5 e) (hq : EncdAt w5 q e t []) (hge : w3.heap.size ≤ e) (hgq : w3.heap.size ≤ q) (hne : e ≠ q) (hlc : content.length ≤ 131072) (hl : out.length ≤ 34180000000000) :
    ∀ w6, Only (fun _ => False) w5 w6 → Calls Tryz.prog 211 #[.pointer (some ⟨q, 0, none⟩), .slice A n c] w6 (fun en w7 => ∃ z : Int, en = .returned (.tuple #[.int .i64 z, .nilIface]) ∧ w7.cell? ⟨m, 1, none⟩ = some (.slice A n c) ∧
      Hid (∀ w8, Only (fun _ => False) w7 w8 → Calls Tryz.prog 210 #[.pointer (some ⟨q, 0, none⟩)] w8 (fun en w9 => en = .returned .nilIface ∧ JsTo X m s t d r (out ++ b64 content) w0 w9))) := by
  intro w6 h6
  obtain ⟨F, G, v, xs, h1, h2, h3, h4, h5, h6', h7⟩ := hj.js.ex
  have hv : v = .slice A n c := by rw [h3] at hc1; injection hc1
  subst hv
  have hs := hj.only.size
  have hml := hj.js.lt
  have ho6 : Only (fun _ => False) w3 w6 := ho.trans h6
  have hGlt := h2.lt
  have hGq : ¬ G q := fun h => by have := hGlt q h; omega
  have hGe : ¬ G e := fun h => by have := hGlt e h; omega
  have hFq : ¬ F q := fun h => by have := h1.lt q h; omega
  have hqm : q ≠ m := by omega
  have hGm : ¬ G m := fun h => (h7 m h).2 rfl
  have hqv : (Value.slice A n c).ownBlock ≠ some q := fun h => by have := (hrow.block h).2; omega
  have ht6 := h2.only ho6 fun _ _ h => h
  have hq6 := hq.only h6 fun h => h
  have he6 := he.only h6 fun h => h
  have hsz6 := ho6.size
  -- the source
  have hsrc : ∃ sb so, (0 < n → A = some ⟨sb, so, none⟩) ∧ content.length = n ∧ n ≤ c ∧ c ≤ 9223372036854775807 ∧ (∀ j (h : j < content.length), w6.cell? ⟨sb, so + j, none⟩ = some (u8v content[j])) ∧ ¬ G sb ∧ sb ≠ q := by
    rcases hrow.open with ⟨e0, e1⟩ | ⟨g, cap, e0, _, hgl, hc, hcm, hcell⟩
    · injection e0 with a1 a2 a3
      subst e1
      exact ⟨m, 0, fun h => by omega, a2.symm ▸ rfl, by omega, by omega, fun j h => absurd h (by simp), hGm, hqm.symm⟩
    · injection e0 with a1 a2 a3
      subst a1 a2 a3
      refine ⟨g, 0, fun _ => rfl, rfl, hc, by unfold maxLen at hcm; omega, fun j h => ?_, (h5 g rfl).2.2.2, by omega⟩
      rw [Nat.zero_add]
      exact (ho6.cell hgl fun h => h).trans (hcell j h)
  obtain ⟨sb, so, hA, hLn, hnc, hcc, hcell, hGs, hsq⟩ := hsrc
  refine (encWrite q e t sb so n c A content G out w6 ht6 hq6 he6 hLn hnc hcc (by omega) hA hcell hGq hGe hGs hne hsq (by omega)).mono ?_
  rintro en w7 ⟨z, rfl, G', t1, t2, t3, t4⟩
  have hmq : ¬ (G m ∨ m = q) := fun h => by
    rcases h with h | h
    · exact hGm h
    · exact hqm h.symm
  refine ⟨z, rfl, (t3.cell (by omega) hmq).trans ((ho6.cell hml fun h => h).trans h3), hid fun w8 h8 => ?_⟩
  have hG'q : ¬ G' q := fun h => by
    rcases t2 q h with h | h
    · exact hGq h
    · have := hq6.lt; omega
  have hG'e : ¬ G' e := fun h => by
    rcases t2 e h with h | h
    · exact hGe h
    · have h1 : e < w6.heap.size := World.block_lt_of_cell? w6 _ he6.pad
      omega
  have hlen : (out ++ b64 (content.take (3 * (n / 3)))).length ≤ 34184372088832 := by
    have h1 := b64_len4 (content.take (3 * (n / 3)))
    have h2 : (content.take (3 * (n / 3))).length ≤ content.length := by rw [List.length_take]; omega
    rw [List.length_append]
    omega
  refine (encClose q e t (content.drop (3 * (n / 3))) G' (out ++ b64 (content.take (3 * (n / 3)))) w8 (t1.only h8 fun _ _ h => h) (t4.only h8 fun h => h) ((he6.only t3 (fun h => by rcases h with h | h; exact hGe h; exact hne h)).only h8 fun h => h) (by rw [List.length_drop]; omega) hG'q hG'e hne hlen).mono ?_
  rintro en w9 ⟨rfl, G2, u1, u2, u3⟩
  refine ⟨rfl, ?_⟩
  have hb : b64 (content.take (3 * (n / 3))) ++ b64 (content.drop (3 * (n / 3))) = b64 content := by
    have := b64_snoc (n / 3) (content.take (3 * (n / 3))) (content.drop (3 * (n / 3))) (by rw [List.length_take]; omega)
    rw [← this, List.take_append_drop]
  rw [List.append_assoc, hb] at u1
  have hj6 := hj.same ho6
  have hs7 := t3.size
  have hs8 := h8.size
  refine hj6.wroteQ (h1.only ho6 fun _ _ h => h) ht6 ((ho6.cell hml fun h => h).trans h3) (h4.only ho6 fun _ _ h => h) h5 h6' h7 (by omega) hFq hqm hqv ⟨G2, u1, fun k hk => ?_, (t3.trans (h8.mono fun _ _ h => h.elim)).trans' u3 fun i hi h => ?_⟩
  · rcases u2 k hk with h | h
    · exact t2 k h
    · right; omega
  · rcases h with h | h
    · rcases t2 i h with h | h
      · exact Or.inl h
      · omega
    · exact Or.inr h
set_option maxRecDepth 100000 in
set_option maxHeartbeats 2000000 in
theorem rwBytes (content h r : List UInt8) (hh : Head (-1) 0 content.length fsBin h) (hs : content.length ≤ 131072) (X : Nat → Prop) (m s t d : Nat) (out : List UInt8) (w0 w : World) (hj : JsTo X m s t d (h ++ (content ++ r)) out w0 w) (hl : out.length ≤ 34100000000000) :
    Calls Tryz.prog 49 #[.iface 49 (.pointer (some ⟨t, 0, none⟩)), .pointer (some ⟨m, 0, none⟩)] w (JPost X m s t d r (out ++ 34 :: (b64 content ++ [34])) w0) := by
  have J0 := hid hj
  have HB : Hid (∀ w1, JsTo X m s t d (h ++ (content ++ r)) (out ++ [34]) w0 w1 → ∃ A n0 cap, w1.cell? ⟨m, 1, none⟩ = some (.slice A n0 cap) ∧ m < w1.heap.size ∧ Hid (Calls Tryz.prog 75 #[.pointer (some ⟨m, 0, none⟩), .slice A 0 cap] w1 (fun e w1' => ∃ A' n' c', e = .returned (.tuple #[.slice A' n' c', .nilIface]) ∧ w1'.cell? ⟨m, 1, none⟩ = some (.slice A n0 cap) ∧ w1'.frozen? ⟨m, 1, none⟩ = false ∧
      Hid (JsTo X m s t d r (out ++ [34]) w0 (w1'.setCell ⟨m, 1, none⟩ (.slice A' n' c')) ∧ Row (w1'.setCell ⟨m, 1, none⟩ (.slice A' n' c')) 0 (.slice A' n' c') content)))) := hid fun w1 h1 => by
    obtain ⟨A, n0, cap, e1, e2, e3⟩ := h1.bytes hh hs
    exact ⟨A, n0, cap, e1, e2, hid e3⟩
  have hW := nilW179
  clear hj hh
  go_enter Tryz.func49, Tryz.ntmps49
  go_wp2_with (first
    | (go_at_call 197; refine (J0.out.byte 34 (by omega)).mono ?_; rintro e w1 ⟨rfl, h1⟩; have J1 := hid h1; obtain ⟨A, n0, cap, c1, hml, HC⟩ := HB.out _ h1; clear h1)
    | (go_at_call 75; go_must (refine HC.out.mono ?_); rintro e w2 ⟨A2, n2, c2, rfl, k1, g1, hj⟩; have HJ := hid hj.out.1; have HR := hid hj.out.2; clear hj))
  have e1 : (w2.setCell ⟨m, 1, none⟩ (.slice A2 n2 c2)).cell? ⟨m, 1, none⟩ = some (.slice A2 n2 c2) := by go_simp
  generalize w2.setCell ⟨m, 1, none⟩ (.slice A2 n2 c2) = w3 at HJ HR e1 ⊢
  clear k1 g1 c1 HC
  have HEV := hid (fun (w5 : World) (e q : Nat) => b64_ready (w5 := w5) (e := e) (q := q) HJ.out HR.out e1)
  have hm3 := HJ.out.js.lt
  have HE1 := hid e1
  go_wp2_with (first
    | (go_at_call 77; go_must (refine (stdEncoding _).mono ?_); rintro en w4 ⟨e, rfl, he, ho4, hea⟩; have HE := hid he; have HO4 := hid ho4; have HEA := hid hea; clear he ho4 hea)
    | (go_at_call 76; go_must (refine (newEncoder e t _).mono ?_); rintro en w5 ⟨q, rfl, hq, ho5, hqa⟩; have HQ := hid hq; have HO5 := hid ho5; have HQA := hid hqa; have c5 := (ho5.cell (o := 1) (by have := HO4.out.size; omega) (fun h => h)).trans ((HO4.out.cell (o := 1) hm3 (fun h => h)).trans HE1.out); clear hq ho5 hqa))
  have hs4 := HO4.out.size
  have hep : e < w4.heap.size := World.block_lt_of_cell? w4 _ HEA.out.pad
  have HRDY := hid (HEV.out w5 e q (HO4.out.trans HO5.out) (HEA.out.only HO5.out fun h => h) HQA.out (by rw [HE.out]; exact Nat.le_refl _) (by rw [HQ.out]; exact hs4) (by have := HQ.out; omega) hs (by simp; omega))
  go_region_held3 (fun w' => w'.cell? ⟨m, 1, none⟩ = some (.slice A2 n2 c2)) (go_keep)
    (first
      | (go_at_call 211; go_must (refine (HRDY.out _ (by simp)).mono ?_); rintro en w7 ⟨z, rfl, c7, hcl⟩; have HCL := hid hcl.out; clear hcl))
  go_wp2_with (first
    | (go_at_call 210; go_must (refine (HCL.out _ (Only.refl _ _)).mono ?_); rintro en w9 ⟨rfl, h9⟩; have J9 := hid h9; clear h9)
    | (go_at_call 197; go_must (refine (J9.out.byte 34 (by have := b64_len4 content; simp; omega)).mono ?_); rintro en w10 ⟨rfl, h10⟩; have J10 := hid h10; clear h10))
  go_ret2
  exact ⟨_, rfl, by simpa using J10.out⟩
end Go.Proofs.YtbgckolcimlofaaGreatDoor
namespace Go.Proofs.YtbgckolcimlofaaGreatDoor
open Go.RowKit YtbgckolcimlofaaGreatDoorPj

set_option maxRecDepth 100000 in
set_option maxHeartbeats 4000000 in
theorem rwquoted_0 (t cap : Nat) (A : Option Addr) (G : Nat → Prop) (out : List UInt8) (w : World) (h : Txt w G t out) (hl : out.length ≤ 35184372088832) :
    Calls Tryz.prog 74 #[.iface 49 (.pointer (some ⟨t, 0, none⟩)), .slice A 0 cap] w (RqPost G t (out ++ quote []) w) := by
  have HT := hid h
  clear h
  go_enter Tryz.func74, Tryz.ntmps74
  go_wp2_with (go_at_call 197; refine (writeByte t 34 G out w _ (Wrote.start HT.out) (by omega)).mono ?_; rintro e w1 ⟨rfl, h1⟩; have H1 := hid h1; clear h1)
  go_loopg [4, 5, 7, 8] 1 (fun m v4 v5 v7 v8 wr => ∃ z : Int, v4 = .int .i64 z ∧ v5 = .nilIface ∧ v7 = .int .i64 0 ∧ v8 = .int .i64 0 ∧ Hid (Wrote G t (out ++ [34]) w wr))
  case atStart => exact ⟨_, rfl, rfl, rfl, rfl, H1⟩
  case round =>
    obtain ⟨z, rfl, rfl, rfl, rfl, HW⟩ := hrel
    go_wp2_with (go_at_call 197; refine (writeByte t 34 G _ w _ HW.out (by simp; omega)).mono ?_; rintro e w2 ⟨rfl, h2⟩; have H2 := hid h2; clear h2)
    go_ret2
    exact ⟨_, rfl, by simpa [quote, esc] using H2.out⟩
theorem quoteOk : QuoteOk := by
  intro t v bs F G out w ht hl hp hFG hv hdec
  by_cases h0 : bs.length = 0
  · have : bs = [] := List.eq_nil_of_length_eq_zero h0
    subst this
    obtain ⟨A, c, rfl, _⟩ := hp
    exact rwquoted_0 t c A G out w ht (by omega)
  · obtain ⟨g, o, cap, rfl, _⟩ := hp.get (by omega)
    exact rwquoted t g o cap bs bs.length F G out w ht hl hp rfl (by omega) hFG hv hdec
end Go.Proofs.YtbgckolcimlofaaGreatDoor
namespace Go.Proofs.YtbgckolcimlofaaGreatDoor
open Go.RowKit YtbgckolcimlofaaGreatDoorPj

theorem rw_int {bs : List UInt8} {i : Int} (hi : IntIs bs i) (h1 : i < 18446744073709551616) (X : Nat → Prop) (m s t d : Nat) (r out : List UInt8) (w0 w : World) (h : JsTo X m s t d (bs ++ r) out w0 w) (hlib : LibHere X w0) (hl : out.length ≤ 35184372088832) :
    Calls Tryz.prog 29 #[.iface 49 (.pointer (some ⟨t, 0, none⟩)), .pointer (some ⟨m, 0, none⟩)] w (JPost X m s t d r (out ++ decI i) w0) := by
  rcases hi with ⟨ht, hb, hr⟩ | ⟨ht, h0, hr⟩
  · exact rwNext_8 h ht fun w1 h1 => rwInt i hb.1 hb.2 bs hr X m s t d r out w0 w1 h1 hlib hl
  · obtain ⟨u, rfl⟩ : ∃ u : Nat, i = (u : Int) := ⟨i.toNat, by omega⟩
    have e : decI (u : Int) = decN u := by unfold decI; rw [if_neg (by omega), Int.toNat_natCast]
    rw [e]
    exact rwNext_9 h ht fun w1 h1 => rwUint u (by omega) bs hr X m s t d r out w0 w1 h1 hlib hl
theorem rwAt (p : P) : RwAt p := by
  induction p using P.ind with | h p ih => ?_
  intro n bs hE hf hj he hn X m s t d r out w0 w hJ hlib hd hl
  cases n with
  | zero => exact hf.elim
  | succ n =>
    have hp := hf.1
    have hcp := cnt_pos p
    have hol : out.length ≤ 30000000000000 := by omega
    obtain ⟨hdr, bss, hh, hbl, hbk, rfl⟩ := hE.get
    have hnum := hn.get
    have leaf : p.kids.length = 0 → bss = [] := fun h => List.eq_nil_of_length_eq_zero (by omega)
    have nokids : p.kind ≠ 8 → p.kind ≠ 9 → p.kids.length = 0 := fun h8 h9 => by
      rcases hp.kids with h | h | h
      · exact absurd h h8
      · exact absurd h h9
      · exact h
    rw [List.append_assoc] at hJ
    rcases hh with ⟨hk, rfl⟩ | ⟨hk, rfl⟩ | ⟨⟨hk, h63⟩, hi⟩ | ⟨hk, hi⟩ | ⟨hk, h, hh, rfl⟩ | ⟨hk, h, hh, rfl⟩ | ⟨hk, hh⟩ | ⟨hk, hh⟩
    · have hb := leaf (nokids (by omega) (by omega))
      subst hb
      rw [js_eq, if_pos hk]
      exact rwNext_10 (bs := [192]) hJ (typeIs 192 [] 10 type_192 rfl rfl) fun w1 h1 => rwNil X m s t d r out w0 w1 h1 (by omega)
    · have hb := leaf (nokids (by omega) (by omega))
      subst hb
      have hb1 := hp.bool hk
      rw [js_eq, if_neg (by omega), if_pos hk]
      by_cases h0 : p.num = 0
      · rw [if_pos h0]
        rw [h0] at hJ
        exact rwNext_7 (bs := [194]) hJ (typeIs 194 [] 7 type_194 rfl rfl) fun w1 h1 => rwBool false X m s t d r out w0 w1 h1 (by omega)
      · have h1 : p.num = 1 := by omega
        rw [if_neg h0]
        rw [h1] at hJ
        exact rwNext_7 (bs := [195]) hJ (typeIs 195 [] 7 type_195 rfl rfl) fun w1 h1 => rwBool true X m s t d r out w0 w1 h1 (by omega)
    · have hb := leaf (nokids (by omega) (by omega))
      subst hb
      rw [js_eq, if_neg (by omega), if_neg (by omega), if_pos (Or.inl hk)]
      have e : ival p.kind p.num = (p.num.toNat : Int) - 18446744073709551616 := by
        unfold ival
        rw [if_pos ⟨hk, h63⟩]
        omega
      rw [e]
      exact rw_int (hi.is (by omega) (by omega)) (by omega) X m s t d r out w0 w hJ hlib (by omega)
    · have hk23 : p.kind = 2 ∨ p.kind = 3 := by rcases hk with h | h; exact Or.inl h.1; exact Or.inr h
      have hb := leaf (nokids (by omega) (by omega))
      subst hb
      rw [js_eq, if_neg (by omega), if_neg (by omega), if_pos hk23]
      have e : ival p.kind p.num = (p.num.toNat : Int) := by
        unfold ival
        rw [if_neg (by omega)]
        omega
      rw [e]
      exact rw_int (hi.is (by omega)) (by omega) X m s t d r out w0 w hJ hlib (by omega)
    · have hb := leaf (nokids (by omega) (by omega))
      subst hb
      rw [js_eq, if_neg (by omega), if_neg (by omega), if_neg (by omega), if_pos hk]
      have hv : VD (tx p.text) := by cases hj with | mk _ _ _ _ h6 _ _ => exact h6 hk
      exact rwNext_1 (bs := h ++ tx p.text) hJ ((text_type hh).app _) fun w1 h1 => text_is quoteOk hh hp.short hv X m s t d r out w0 w1 h1 hlib (by omega)
    · have hb := leaf (nokids (by omega) (by omega))
      subst hb
      rw [js_eq, if_neg (by omega), if_neg (by omega), if_neg (by omega), if_neg (by omega), if_pos hk]
      have hl2 := tx_length p.text
      have hs2 := hp.short
      rw [← hl2] at hh
      exact rwNext_2 (bs := h ++ tx p.text) hJ ((bin_type hh).app _) fun w1 h1 => rwBytes (tx p.text) h r hh (by omega) X m s t d out w0 w1 (by rw [List.append_assoc] at h1; exact h1) (by omega)
    · exact rwNext_4 (bs := hdr ++ bss.flatten) (by rw [List.append_assoc]; exact hJ) ((arr_type hh).app _) fun w1 h1 => rwArray p ih n hdr bss hk (arr_reads hh) hbl hbk hf hj he hn X m s t d r out w0 w1 (by rw [List.append_assoc] at h1; exact h1) hlib hd hl
    · have hev := hp.map hk
      by_cases h0 : p.kids.length = 0
      · have hb := leaf h0
        subst hb
        have hjs : js p = [123, 125] := by
          rw [js_eq]
          have : p.kids = [] := List.eq_nil_of_length_eq_zero h0
          simp [hk, this, jsMap]
        rw [hjs]
        rw [h0] at hh
        exact rwNext_3 (bs := hdr) (by simpa using hJ) (map_type hh) fun w1 h1 => rwMap_0 X m s t d hdr r out w0 w1 (map_reads hh) h1 hol
      · exact rwNext_3 (bs := hdr ++ bss.flatten) (by rw [List.append_assoc]; exact hJ) ((map_type hh).app _) fun w1 h1 => rwMap_n quoteOk p ih n hdr bss hk (p.kids.length / 2) (by omega) (by omega) (map_reads hh) hbl hbk hf hj he hn X m s t d r out w0 w1 (by rw [List.append_assoc] at h1; exact h1) hlib hd hl
end Go.Proofs.YtbgckolcimlofaaGreatDoor
