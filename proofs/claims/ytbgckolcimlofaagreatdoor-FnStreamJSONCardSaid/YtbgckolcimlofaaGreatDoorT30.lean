/-
  Plain facts on the JSON of items and pairs; no conditions.
  The bytes of items in a row; for values that fit.
  Plain facts on the lengths of the JSON; for values that fit.
  rwArray; where the items are read.
-/
import Derived.Test.YtbgckolcimlofaaGreatDoorT01
import Derived.Test.YtbgckolcimlofaaGreatDoorT02
import Derived.Test.YtbgckolcimlofaaGreatDoorProg
import Derived.Test.YtbgckolcimlofaaGreatDoorT29
import Derived.Defers
import Derived.Test.YtbgckolcimlofaaGreatDoorT16
import Derived.Deep.LoopGhost
set_option linter.unusedVariables false
set_option linter.unusedSimpArgs false
namespace YtbgckolcimlofaaGreatDoorPj
theorem quote_len (l : List UInt8) : (quote l).length ≤ 6 * l.length + 2 := by
  have := esc_len _ l rfl
  simp [quote]
  omega
theorem b64_len4 (l : List UInt8) : (b64 l).length ≤ 4 * l.length := by
  induction l using b64.induct <;> simp [b64] <;> omega
theorem decN_len (n : Nat) : (decN n).length ≤ n + 1 := by
  induction n using Nat.strongRecOn with
  | _ n ih =>
    rw [decN]
    split
    · simp
    · have := ih (n / 10) (by omega)
      simp
      omega
/-- The kids' JSON in a row, commas between. -/
theorem jsArr_snoc (ks : List P) (i : Nat) (h : i < ks.length) : jsArr (ks.take (i + 1)) = jsArr (ks.take i) ++ (if 0 < i then [44] else []) ++ js ks[i] := by
  have T : ∀ (l : List P) (j : Nat) (hj : j < l.length), jsArrT (l.take (j + 1)) = jsArrT (l.take j) ++ 44 :: js l[j] := by
    intro l
    induction l with
    | nil => intro j hj; simp at hj
    | cons p r ih =>
      intro j hj
      cases j with
      | zero => simp [jsArrT]
      | succ j =>
        have := ih j (by simpa using hj)
        simp only [List.take_succ_cons, jsArrT, this, List.getElem_cons_succ]
        simp
  cases ks with
  | nil => simp at h
  | cons p r =>
    cases i with
    | zero => simp [jsArr, jsArrT]
    | succ i =>
      have := T r i (by simpa using h)
      simp only [List.take_succ_cons, jsArr, this, List.getElem_cons_succ]
      simp
/-- A pair's JSON. -/
def jsPair (k v : P) : List UInt8 := quote (tx k.text) ++ 58 :: js v
theorem jsMapT_snoc : ∀ (i : Nat) (ks : List P) (h : 2 * i + 1 < ks.length), jsMapT (ks.take (2 * i + 2)) = jsMapT (ks.take (2 * i)) ++ 44 :: jsPair ks[2 * i] ks[2 * i + 1]
  | 0, [], h => by simp at h
  | 0, [_], h => by simp at h
  | 0, k :: v :: r, h => by simp [jsMapT, jsPair]
  | i + 1, [], h => by simp at h
  | i + 1, [_], h => by simp at h
  | i + 1, k :: v :: r, h => by
    have := jsMapT_snoc i r (by simp at h; omega)
    have e1 : 2 * (i + 1) + 2 = 2 * i + 2 + 1 + 1 := by omega
    have e2 : 2 * (i + 1) = 2 * i + 1 + 1 := by omega
    have h' : 2 * i + 1 < r.length := by simp at h; omega
    have e3 : (k :: v :: r)[2 * (i + 1)] = r[2 * i]'(by omega) := by simp only [e2, List.getElem_cons_succ]
    have e4 : (k :: v :: r)[2 * (i + 1) + 1] = r[2 * i + 1] := by simp only [e2, List.getElem_cons_succ]
    rw [e3, e4, e1, e2]
    simp only [List.take_succ_cons, jsMapT, this]
    simp
theorem jsMap_snoc (ks : List P) (i : Nat) (h : 2 * i + 1 < ks.length) : jsMap (ks.take (2 * i + 2)) = jsMap (ks.take (2 * i)) ++ (if 0 < i then [44] else []) ++ jsPair ks[2 * i] ks[2 * i + 1] := by
  match ks, i, h with
  | [], i, h => simp at h
  | [_], i, h => simp at h
  | k :: v :: r, 0, h => simp [jsMap, jsMapT, jsPair]
  | k :: v :: r, i + 1, h =>
    have := jsMapT_snoc i r (by simp at h; omega)
    have e1 : 2 * (i + 1) + 2 = 2 * i + 2 + 1 + 1 := by omega
    have e2 : 2 * (i + 1) = 2 * i + 1 + 1 := by omega
    have h' : 2 * i + 1 < r.length := by simp at h; omega
    have e3 : (k :: v :: r)[2 * (i + 1)] = r[2 * i]'(by omega) := by simp only [e2, List.getElem_cons_succ]
    have e4 : (k :: v :: r)[2 * (i + 1) + 1] = r[2 * i + 1] := by simp only [e2, List.getElem_cons_succ]
    rw [e3, e4, e1, e2]
    simp only [List.take_succ_cons, jsMap, this]
    simp
theorem decI_len' (i : Int) : (decI i).length ≤ i.natAbs + 2 := by
  unfold decI
  split
  · have := decN_len (-i).toNat; simp; omega
  · have := decN_len i.toNat; omega
theorem js_eq (p : P) : js p = if p.kind = 0 then [110, 117, 108, 108] else if p.kind = 1 then (if p.num = 0 then [102, 97, 108, 115, 101] else [116, 114, 117, 101]) else if p.kind = 2 ∨ p.kind = 3 then decI (ival p.kind p.num) else if p.kind = 6 then quote (tx p.text) else if p.kind = 7 then 34 :: (b64 (tx p.text) ++ [34]) else if p.kind = 8 then 91 :: (jsArr p.kids ++ [93]) else 123 :: (jsMap p.kids ++ [125]) := by
  cases p
  rfl
theorem cnt_pos (p : P) : 1 ≤ cnt p := by rw [cnt_eq]; omega
theorem jsArr_len (l : List P) (h : ∀ p ∈ l, (js p).length + 10 ≤ 1000000 * cnt p) : (jsArr l).length ≤ 1000000 * cntAll l ∧ (jsArrT l).length ≤ 1000000 * cntAll l := by
  induction l with
  | nil => simp [jsArr, jsArrT]
  | cons p r ih =>
    have h1 := h p (by simp)
    have h2 := ih fun q hq => h q (by simp [hq])
    simp only [jsArr, jsArrT, cntAll, List.length_append, List.length_cons]
    omega
theorem jsMap_len : ∀ (l : List P) (_ : ∀ p ∈ l, (js p).length + 10 ≤ 1000000 * cnt p ∧ p.text.size ≤ 131072), (jsMap l).length ≤ 1000000 * cntAll l ∧ (jsMapT l).length ≤ 1000000 * cntAll l
  | [], _ => by simp [jsMap, jsMapT]
  | [_], _ => by simp [jsMap, jsMapT]
  | k :: v :: r, h => by
    have h1 := h k (by simp)
    have h2 := h v (by simp)
    have h3 := jsMap_len r fun q hq => h q (by simp [hq])
    have h4 := quote_len (tx k.text)
    have h5 : (tx k.text).length = k.text.size := by
      unfold tx
      rw [Array.length_toList]
      rfl
    have h6 := cnt_pos k
    simp only [jsMap, jsMapT, cntAll, List.length_append, List.length_cons]
    omega
theorem txlen (t : ByteArray) : (tx t).length = t.size := by
  unfold tx
  rw [Array.length_toList]
  rfl
theorem decN_le : ∀ (k n : Nat), n < 10 ^ (k + 1) → (decN n).length ≤ k + 1
  | 0, n, h => by rw [decN, if_pos (by omega)]; simp
  | k + 1, n, h => by
    rw [decN]
    split
    · simp
    · have := decN_le k (n / 10) (by rw [Nat.pow_succ] at h; omega)
      simp
      omega
/-- All numbers in a value are of 64 bits. -/
inductive NumOk : P → Prop where
  | mk (p : P) (h0 : 0 ≤ p.num) (h1 : p.num < 18446744073709551616) (hk : ∀ (i : Nat) (h : i < p.kids.length), NumOk p.kids[i]) : NumOk p
theorem NumOk.get {p : P} (h : NumOk p) : 0 ≤ p.num ∧ p.num < 18446744073709551616 ∧ ∀ (i : Nat) (h : i < p.kids.length), NumOk p.kids[i] := by
  cases h with | mk _ h0 h1 hk => exact ⟨h0, h1, hk⟩
theorem ival_bd {k n : Int} (h0 : 0 ≤ n) (h1 : n < 18446744073709551616) : -9223372036854775808 ≤ ival k n ∧ ival k n < 18446744073709551616 := by
  unfold ival
  split <;> omega
theorem decI_le {i : Int} (h0 : -9223372036854775808 ≤ i) (h1 : i < 18446744073709551616) : (decI i).length ≤ 21 := by
  unfold decI
  split
  · have := decN_le 19 (-i).toNat (by omega); simp; omega
  · have := decN_le 19 i.toNat (by omega); omega
theorem js_len (p : P) : ∀ n, Fit n p → NumOk p → (js p).length + 10 ≤ 1000000 * cnt p := by
  induction p using P.ind with | h p ih => ?_
  intro n hf hnum
  obtain ⟨hn0, hn1, hnk⟩ := hnum.get
  cases n with
  | zero => exact hf.elim
  | succ n =>
    obtain ⟨hp, hk⟩ := hf
    have hc := cnt_eq p
    have kids : ∀ q ∈ p.kids, (js q).length + 10 ≤ 1000000 * cnt q ∧ q.text.size ≤ 131072 := by
      intro q hq
      obtain ⟨j, hj, rfl⟩ := List.getElem_of_mem hq
      refine ⟨ih j hj n (hk j hj) (hnk j hj), ?_⟩
      have := hk j hj
      cases n with
      | zero => exact this.elim
      | succ n => exact this.1.short
    have ha := jsArr_len p.kids fun q hq => (kids q hq).1
    have hm := jsMap_len p.kids kids
    have ht := txlen p.text
    have hs := hp.short
    have hq := quote_len (tx p.text)
    have hb := b64_len4 (tx p.text)
    rw [js_eq]
    repeat' split
    · simp; omega
    · simp; omega
    · simp; omega
    · have hb := ival_bd (k := p.kind) hn0 hn1
      have := decI_le hb.1 hb.2
      omega
    · omega
    · simp; omega
    · simp; omega
    · simp; omega
end YtbgckolcimlofaaGreatDoorPj
namespace Go.Proofs.YtbgckolcimlofaaGreatDoor
open Go.RowKit YtbgckolcimlofaaGreatDoorPj

theorem LibHere.mono {X Y : Nat → Prop} {w0 : World} (h : LibHere Y w0) (hXY : ∀ k, k < w0.heap.size → X k → Y k) : LibHere X w0 := fun w hw => h w (hw.mono hXY)
theorem JsTo.lib {X : Nat → Prop} {m s t d : Nat} {all out : List UInt8} {w0 w : World} (h : JsTo X m s t d all out w0 w) (hl : LibHere X w0) : LibHere (fun k => X k ∨ w0.heap.size ≤ k) w := hl.next h.only
/-- The depth is set. -/
theorem Js.depth {w : World} {X : Nat → Prop} {m s t d d' : Nat} {all out : List UInt8} (h : Js w X m s t d all out) : Js (w.setCell ⟨m, 2, none⟩ (.int .i64 (d' : Nat))) X m s t d' all out ∧ Only X w (w.setCell ⟨m, 2, none⟩ (.int .i64 (d' : Nat))) := by
  obtain ⟨F, G, v, xs, h1, h2, h3, h4, h5, h6, h7⟩ := h.ex
  have ho2 : Only (fun k => k = m) w (w.setCell ⟨m, 2, none⟩ (.int .i64 (d' : Nat))) := Only.setCell (S := fun k => k = m) (p := ⟨m, 2, none⟩) (Only.refl _ _) (fun _ => rfl) _
  have k0 := h.c0
  have k2 := h.c2
  have k3 := h.c3
  have k4 := h.c4
  have k5 := h.c5
  have g1 := h.f1
  have g2 := h.f2
  exact ⟨⟨⟨F, G, v, xs, h1.only ho2 fun k hk e => (h6 k hk).2.2 e, h2.only ho2 fun k hk e => (h7 k hk).2 e, by go_simp, h4.only ho2 fun k hk e => (h5 k hk).2.1 e, h5, h6, h7⟩, by go_simp, by go_simp, by go_simp, by go_simp, by go_simp, by go_simp, by go_simp, h.xm⟩,
    ho2.mono fun k _ e => e ▸ h.xm⟩
theorem JsTo.depth {w0 w : World} {X : Nat → Prop} {m s t d d' : Nat} {all out : List UInt8} (h : JsTo X m s t d all out w0 w) : JsTo X m s t d' all out w0 (w.setCell ⟨m, 2, none⟩ (.int .i64 (d' : Nat))) := by
  obtain ⟨h1, h2⟩ := h.js.depth (d' := d')
  refine ⟨h1, h.only.trans' h2 fun i hi e => ?_⟩
  rcases e with e | e
  · exact e
  · omega
/-- One call deeper; the closure's cell stays as it is. -/
theorem JsTo.deeper {w0 w : World} {X : Nat → Prop} {m s t d : Nat} {all out : List UInt8} (h : JsTo X m s t d all out w0 w) (hd : d < 100000) (hlib : LibHere X w0) :
    Calls Tryz.prog 79 #[.pointer (some ⟨m, 0, none⟩)] w fun e w' => ∃ b, e = .returned (.tuple #[.func (.func 106) #[] #[.pointer (some ⟨b, 0, none⟩)], .nilIface]) ∧ ∃ Y : Nat → Prop, JsTo Y m s t (d + 1) all out w' w' ∧ LibHere Y w' ∧
      ∀ d' all' out' w'', JsTo Y m s t d' all' out' w' w'' → w''.cell? ⟨b, 0, none⟩ = some (.pointer (some ⟨m, 0, none⟩)) ∧ JsTo X m s t d' all' out' w0 w'' := by
  refine (recursive m d hd w h.js.c2 h.js.c3 h.js.f2).mono ?_
  rintro e w' ⟨b, rfl, hb, hb1, hb2, c2, ho, f2, w1, ho1, hw1⟩
  obtain ⟨F, G, v, xs, h1, h2, h3, h4, h5, h6, h7⟩ := h.js.ex
  have hml := h.js.lt
  have hs0 := h.only.size
  have hs1 := ho.size
  have hoX : Only X w0 w' := h.only.trans' ho fun i hi e => by
    have e : i = m := e
    subst e
    rcases h.js.xm with e | e
    · exact e
    · omega
  refine ⟨b, rfl, fun k => (X k ∨ w0.heap.size ≤ k) ∧ k ≠ b, ?_, ?_, ?_⟩
  · have hj1 := h.js.only ho1 fun _ _ e => e
    have hj2 := (hj1.depth (d' := d + 1)).1
    rw [← hw1] at hj2
    refine JsTo.start ?_
    obtain ⟨F, G, v, xs, h1, h2, h3, h4, h5, h6, h7⟩ := h.js.ex
    have hj3 : Js w (fun k => (X k ∨ w0.heap.size ≤ k) ∧ k ≠ b) m s t d all out :=
      ⟨⟨F, G, v, xs, h1, h2, h3, h4, fun k hk => ⟨⟨(h5 k hk).1, by have := (h4.block hk).2; omega⟩, (h5 k hk).2⟩, fun k hk => ⟨⟨(h6 k hk).1, by have := h1.lt k hk; omega⟩, (h6 k hk).2⟩, fun k hk => ⟨⟨(h7 k hk).1, by have := h2.lt k hk; omega⟩, (h7 k hk).2⟩⟩,
        h.js.c0, h.js.c2, h.js.c3, h.js.c4, h.js.c5, h.js.f1, h.js.f2, ⟨h.js.xm, by omega⟩⟩
    have hj4 := ((hj3.only ho1 fun _ _ e => e).depth (d' := d + 1)).1
    rw [← hw1] at hj4
    exact hj4
  · refine (hlib.next hoX).mono fun k _ hk => hk.1
  · intro d' all' out' w'' hj
    refine ⟨(hj.only.cell hb2 fun e => e.2 rfl).trans hb, hj.js.mono fun k hk => ?_, hoX.trans' hj.only fun i hi e => ?_⟩
    · rcases hk with hk | hk
      · exact hk.1
      · right; omega
    · rcases e.1 with e | e
      · exact e
      · omega
end Go.Proofs.YtbgckolcimlofaaGreatDoor
namespace YtbgckolcimlofaaGreatDoorPj
theorem mem_take {α : Type} {l : List α} {i : Nat} {x : α} (h : x ∈ l.take i) : x ∈ l := List.mem_of_mem_take h
theorem kid_len {p : P} {n : Nat} (hf : Fit (n + 1) p) (hn : NumOk p) : ∀ q ∈ p.kids, (js q).length + 10 ≤ 1000000 * cnt q ∧ q.text.size ≤ 131072 := by
  intro q hq
  obtain ⟨j, hj, rfl⟩ := List.getElem_of_mem hq
  refine ⟨js_len _ n (hf.2 j hj) (hn.get.2.2 j hj), ?_⟩
  have := hf.2 j hj
  cases n with
  | zero => exact this.elim
  | succ n => exact this.1.short
theorem arr_bound {p : P} {n : Nat} (hf : Fit (n + 1) p) (hn : NumOk p) (i : Nat) (hi : i < p.kids.length) : (jsArr (p.kids.take i)).length + 1000000 * cnt p.kids[i] + 1000000 ≤ 1000000 * cnt p := by
  have h1 := (jsArr_len (p.kids.take i) fun q hq => (kid_len hf hn q (mem_take hq)).1).1
  have h2 := cntAll_take p.kids i hi
  have h3 := cntAll_take_le p.kids (i + 1)
  have h4 := cnt_eq p
  omega
theorem arr_bound' {p : P} {n : Nat} (hf : Fit (n + 1) p) (hn : NumOk p) (i : Nat) : (jsArr (p.kids.take i)).length + 1000000 ≤ 1000000 * cnt p := by
  have h1 := (jsArr_len (p.kids.take i) fun q hq => (kid_len hf hn q (mem_take hq)).1).1
  have h3 := cntAll_take_le p.kids i
  have h4 := cnt_eq p
  omega
theorem map_bound {p : P} {n : Nat} (hf : Fit (n + 1) p) (hn : NumOk p) (i : Nat) (hi : 2 * i + 1 < p.kids.length) : (jsMap (p.kids.take (2 * i))).length + 1000000 * cnt p.kids[2 * i + 1] + 1000000 + 1000000 ≤ 1000000 * cnt p := by
  have h1 := (jsMap_len (p.kids.take (2 * i)) fun q hq => kid_len hf hn q (mem_take hq)).1
  have h2 := cntAll_take p.kids (2 * i) (by omega)
  have h2' := cntAll_take p.kids (2 * i + 1) hi
  have h3 := cntAll_take_le p.kids (2 * i + 1 + 1)
  have h4 := cnt_eq p
  have h5 := cnt_pos p.kids[2 * i]
  omega
theorem map_bound' {p : P} {n : Nat} (hf : Fit (n + 1) p) (hn : NumOk p) (i : Nat) : (jsMap (p.kids.take i)).length + 1000000 ≤ 1000000 * cnt p := by
  have h1 := (jsMap_len (p.kids.take i) fun q hq => kid_len hf hn q (mem_take hq)).1
  have h3 := cntAll_take_le p.kids i
  have h4 := cnt_eq p
  omega
end YtbgckolcimlofaaGreatDoorPj
namespace Go.Proofs.YtbgckolcimlofaaGreatDoor
open Go.RowKit YtbgckolcimlofaaGreatDoorPj

def VD (l : List UInt8) : Prop := Go.Lib.validD l = true
set_option maxRecDepth 100000 in
set_option maxHeartbeats 2000000 in
theorem done_d (m d b : Nat) (u : FrameMode) (w : World) (cb : w.cell? ⟨b, 0, none⟩ = some (.pointer (some ⟨m, 0, none⟩))) (c2 : w.cell? ⟨m, 2, none⟩ = some (.int .i64 ((d + 1 : Nat) : Int))) (f2 : w.frozen? ⟨m, 2, none⟩ = false) (hd : d < 100000) :
    CallsD Tryz.prog 106 #[.pointer (some ⟨b, 0, none⟩)] u w (fun e u' w' => u' = u ∧ (e = .returned (.tuple #[]) ∧ w' = w.setCell ⟨m, 2, none⟩ (.int .i64 (d : Nat)))) := by
  go_enter_d Tryz.func106, Tryz.ntmps106
  go_wp2
  go_end0
  exact ⟨rfl, by simp⟩
/-- 'rwNext' writes a value. -/
def RwAt (p : P) : Prop := ∀ (n : Nat) (bs : List UInt8), Enc p bs → Fit n p → JOk VD p → NoEmpty p → NumOk p → ∀ (X : Nat → Prop) (m s t d : Nat) (r out : List UInt8) (w0 w : World), JsTo X m s t d (bs ++ r) out w0 w → LibHere X w0 → d + n ≤ 1000 →
  out.length + 1000000 * cnt p ≤ 30000000000000 → Calls Tryz.prog 29 #[.iface 49 (.pointer (some ⟨t, 0, none⟩)), .pointer (some ⟨m, 0, none⟩)] w (JPost X m s t d r (out ++ js p) w0)
theorem JsTo.readsV {w0 w : World} {X : Nat → Prop} {m s t d K : Nat} {bs r out : List UInt8} {v : Value} (h : JsTo X m s t d (bs ++ r) out w0 w) (hrd : ReadsInt K bs v) :
    Calls Tryz.prog K #[.pointer (some ⟨m, 0, none⟩)] w fun e w' => e = .returned (.tuple #[v, .nilIface]) ∧ JsTo X m s t d r out w0 w' := by
  obtain ⟨F, h1, h2, h3, h4, h5⟩ := h.reads
  exact (hrd F m s r w h1.went h4 h3 h2).mono fun e w' ⟨he, hw⟩ => ⟨he, h5 _ _ hw⟩
theorem flatten_drop {bss : List (List UInt8)} {i : Nat} (h : i < bss.length) (r : List UInt8) : (bss.drop i).flatten ++ r = bss[i] ++ ((bss.drop (i + 1)).flatten ++ r) := by
  rw [List.drop_eq_getElem_cons h, List.flatten_cons, List.append_assoc]
set_option maxRecDepth 100000 in
set_option maxHeartbeats 4000000 in
theorem rwArray (p : P) (ih : ∀ (j : Nat) (hj : j < p.kids.length), RwAt p.kids[j]) (n : Nat) (h : List UInt8) (bss : List (List UInt8)) (hk : p.kind = 8) (hrd : ReadsInt 85 h (.int .u32 (p.kids.length : Nat))) (hbl : bss.length = p.kids.length)
    (hbk : ∀ (i : Nat) (hi : i < p.kids.length) (hi' : i < bss.length), Enc p.kids[i] bss[i]) (hf : Fit (n + 1) p) (hj : JOk VD p) (he : NoEmpty p) (hn : NumOk p) (X : Nat → Prop) (m s t d : Nat) (r out : List UInt8) (w0 w : World)
    (h0 : JsTo X m s t d (h ++ (bss.flatten ++ r)) out w0 w) (hlib : LibHere X w0) (hd : d + (n + 1) ≤ 1000) (hl : out.length + 1000000 * cnt p ≤ 30000000000000) :
    Calls Tryz.prog 51 #[.iface 49 (.pointer (some ⟨t, 0, none⟩)), .pointer (some ⟨m, 0, none⟩)] w (JPost X m s t d r (out ++ js p) w0) := by
  have hjs : js p = 91 :: (jsArr p.kids ++ [93]) := by rw [js_eq]; simp [hk]
  have hfew := hf.1.few
  have hb := fun i hi => arr_bound hf hn i hi
  have hb' := fun i => arr_bound' hf hn i
  generalize hN : p.kids.length = N at hrd hfew
  have HKID : Hid (∀ (i : Nat) (hi : i < p.kids.length) (Y : Nat → Prop) (r out : List UInt8) (w1 w2 : World), JsTo Y m s t (d + 1) ((bss.drop i).flatten ++ r) out w1 w2 → LibHere Y w1 → out.length + 1000000 * cnt p.kids[i] ≤ 30000000000000 →
      Calls Tryz.prog 29 #[.iface 49 (.pointer (some ⟨t, 0, none⟩)), .pointer (some ⟨m, 0, none⟩)] w2 (JPost Y m s t (d + 1) ((bss.drop (i + 1)).flatten ++ r) (out ++ js p.kids[i]) w1)) := hid (by
    intro i hi Y r out w1 w2 hj1 hl1 ho1
    rw [flatten_drop (by omega)] at hj1
    refine ih i hi n _ (hbk i hi (by omega)) (hf.2 i hi) ?_ ?_ (hn.get.2.2 i hi) Y m s t (d + 1) _ out w1 w2 hj1 hl1 (by omega) ho1
    · cases hj with | mk _ _ _ _ _ hkk _ => exact hkk (Or.inl hk) i hi
    · cases he with | mk _ _ h2 => exact h2 i hi)
  have HRD := hid hrd
  have HB := hid hb
  have HB' := hid hb'
  have HN := hid hN
  have HJS := hid hjs
  have HLB := hid hlib
  have HL := hid hl
  have J0 := hid h0
  have hd1 : d < 100000 := by omega
  have hol : out.length ≤ 30000000000000 := by omega
  have hbl' : bss.length ≤ N := by omega
  clear hrd hb hb' hjs hlib hl h0 ih hbk hj he hn hf hk hbl
  go_enter_defers Tryz.func51, Tryz.ntmps51
  go_wp2_with (first
    | (go_at_call 197; refine (J0.out.byte 91 (by omega)).mono ?_; rintro e w1 ⟨rfl, h1⟩; have J1 := hid h1; clear h1)
    | (go_at_call 79; refine (J1.out.deeper hd1 HLB.out).mono ?_; rintro e w2 ⟨b, rfl, Y, h2, h3, h4⟩; have J2 := hid h2; have L2 := hid h3; have B2 := hid h4; clear h2 h3 h4)
    | (go_at_call 85; refine (J2.out.readsV HRD.out).mono ?_; rintro e w3 ⟨rfl, h3⟩; have J3 := hid h3; clear h3))
  go_loopg [4, 5, 9, 10, 11] N (fun gm v4 v5 v9 v10 v11 wr => ∃ (i : Nat) (z z2 : Int) (c : Bool), i + gm = N ∧ v4 = .int .i64 z ∧ v5 = .nilIface ∧ v9 = .int .i64 z2 ∧ v10 = .bool c ∧ v11 = .int .u32 (i : Nat) ∧ Hid (c = decide (0 < i)) ∧ Hid (JsTo Y m s t (d + 1) ((bss.drop i).flatten ++ r) (out ++ [91] ++ jsArr (p.kids.take i)) w2 wr))
  case atStart => exact ⟨0, _, _, _, by omega, rfl, rfl, rfl, rfl, rfl, hid rfl, by simpa [jsArr] using J3⟩
  case round =>
    obtain ⟨i, z, z2, c, him, rfl, rfl, rfl, rfl, rfl, HC, HJ⟩ := hrel
    by_cases hlt : i < N
    · have hb1 := HB.out i (by rw [HN.out]; exact hlt)
      have hol2 : (out ++ [91] ++ jsArr (p.kids.take i)).length ≤ 30000000000000 := by simp; have := HL.out; omega
      have hol3 : (out ++ [91] ++ jsArr (p.kids.take i) ++ [44]).length + 1000000 * cnt (p.kids[i]'(by rw [HN.out]; exact hlt)) ≤ 30000000000000 := by simp; have := HL.out; omega
      have hol4 : (out ++ [91] ++ jsArr (p.kids.take i)).length + 1000000 * cnt (p.kids[i]'(by rw [HN.out]; exact hlt)) ≤ 30000000000000 := by simp; have := HL.out; omega
      have H3 := hid hol3
      have H4 := hid hol4
      have HSN := hid (jsArr_snoc p.kids i (by rw [HN.out]; exact hlt))
      clear hb1 hol3 hol4
      cases c with
      | true =>
        have hi0 : 0 < i := by have := HC.out; simpa using this.symm
        go_wp2_with (first
          | (go_at_call 197; refine (HJ.out.byte 44 (by omega)).mono ?_; rintro e w4 ⟨rfl, h4⟩; have J4 := hid h4; clear h4)
          | (go_at_call 29; refine (HKID.out i (by rw [HN.out]; exact hlt) Y r _ _ _ J4.out L2.out H3.out).mono ?_; rintro e w5 ⟨z5, rfl, h5⟩; have J5 := hid h5; clear h5))
        go_roundg (gk - 1)
        case measure => omega
        case rel => exact ⟨i + 1, _, _, _, by omega, rfl, rfl, rfl, rfl, by go_num, hid (by simp), hid (by have := J5.out; rw [HSN.out, if_pos hi0]; simpa using this)⟩
      | false =>
        have hi0 : ¬ 0 < i := by have := HC.out; simpa using this.symm
        go_wp2_with (first
          | (go_at_call 29; refine (HKID.out i (by rw [HN.out]; exact hlt) Y r _ _ _ HJ.out L2.out H4.out).mono ?_; rintro e w5 ⟨z5, rfl, h5⟩; have J5 := hid h5; clear h5))
        go_roundg (gk - 1)
        case measure => omega
        case rel => exact ⟨i + 1, _, _, _, by omega, rfl, rfl, rfl, rfl, by go_num, hid (by simp), hid (by have := J5.out; rw [HSN.out, if_neg hi0]; simpa using this)⟩
    · obtain rfl : i = N := by omega
      have hol2 : (out ++ [91] ++ jsArr (p.kids.take i)).length ≤ 30000000000000 := by have := HB'.out i; simp; have := HL.out; omega
      go_wp2_with (go_at_call 197; refine (HJ.out.byte 93 (by omega)).mono ?_; rintro e w4 ⟨rfl, h4⟩; have J4 := hid h4; clear h4)
      obtain ⟨k1, hj1⟩ := B2.out _ _ _ _ J4.out
      have k2 := hj1.js.c2
      have k3 := hj1.js.f2
      refine leaves_cons (f := 106) (args := #[.pointer (some ⟨b, 0, none⟩)]) (by simp) (by simp [go_sem]) ?_
      refine (done_d m d b .returning _ k1 k2 k3 hd1).mono ?_
      rintro e u' w'' ⟨rfl, rfl, rfl⟩
      have hj2 := hj1.depth (d' := d)
      refine ⟨.tuple #[.int .i64 (wrap64 (z + 1)), .nilIface], by simp [results, Tryz.results51, go_sem], _, rfl, ?_⟩
      have e1 : p.kids.take i = p.kids := List.take_of_length_le (by rw [HN.out]; exact Nat.le_refl _)
      have e2 : bss.drop i = [] := List.drop_eq_nil_of_le (by omega)
      rw [HJS.out]
      rw [e1, e2] at hj2
      simpa using hj2
end Go.Proofs.YtbgckolcimlofaaGreatDoor
