/-
  The central words: the Reader over what lies ahead and what is written; rwNil and rwBool; where the byte lies ahead.
  AppendInt and AppendUint in tens, with a room for what lies behind; for every number.
-/
import Derived.Test.YtbgckolcimlofaaGreatDoorProg
import Derived.Test.YtbgckolcimlofaaGreatDoorT11
import Derived.Test.YtbgckolcimlofaaGreatDoorT17
import Derived.Test.YtbgckolcimlofaaGreatDoorT26
import Derived.Lib.ItoaWalk
import Derived.Lib.ItoaMem
import Derived.Lib.AppendIntMem
import Derived.CellFam
set_option linter.unusedVariables false
set_option linter.unusedSimpArgs false
namespace Go.Proofs.YtbgckolcimlofaaGreatDoor
open Go.RowKit YtbgckolcimlofaaGreatDoorPj

/-- The Reader m over the source s ('all' lies ahead; d calls deep), the text t ('out' is written), all in blocks of X. -/
structure Js (w : World) (X : Nat → Prop) (m s t d : Nat) (all out : List UInt8) : Prop where
  ex : ∃ (F G : Nat → Prop) (v : Value) (xs : List UInt8), Rd w F s all ∧ Txt w G t out ∧ w.cell? ⟨m, 1, none⟩ = some v ∧ Row w 0 v xs ∧ (∀ k, v.ownBlock = some k → X k ∧ k ≠ m ∧ ¬ F k ∧ ¬ G k) ∧ (∀ k, F k → X k ∧ ¬ G k ∧ k ≠ m) ∧ (∀ k, G k → X k ∧ k ≠ m)
  c0 : w.cell? ⟨m, 0, none⟩ = some (.pointer (some ⟨s, 0, none⟩))
  c2 : w.cell? ⟨m, 2, none⟩ = some (.int .i64 (d : Nat))
  c3 : w.cell? ⟨m, 3, none⟩ = some (.int .i64 0)
  c4 : w.cell? ⟨m, 4, none⟩ = some (.int .u32 1048576)
  c5 : w.cell? ⟨m, 5, none⟩ = some (.int .u64 1048576)
  f1 : w.frozen? ⟨m, 1, none⟩ = false
  f2 : w.frozen? ⟨m, 2, none⟩ = false
  xm : X m
theorem Js.mono {w : World} {X Y : Nat → Prop} {m s t d : Nat} {all out : List UInt8} (h : Js w X m s t d all out) (hXY : ∀ k, X k → Y k) : Js w Y m s t d all out := by
  obtain ⟨F, G, v, xs, h1, h2, h3, h4, h5, h6, h7⟩ := h.ex
  exact ⟨⟨F, G, v, xs, h1, h2, h3, h4, fun k hk => ⟨hXY k (h5 k hk).1, (h5 k hk).2⟩, fun k hk => ⟨hXY k (h6 k hk).1, (h6 k hk).2⟩, fun k hk => ⟨hXY k (h7 k hk).1, (h7 k hk).2⟩⟩, h.c0, h.c2, h.c3, h.c4, h.c5, h.f1, h.f2, hXY m h.xm⟩
theorem Js.lt {w : World} {X : Nat → Prop} {m s t d : Nat} {all out : List UInt8} (h : Js w X m s t d all out) : m < w.heap.size := World.block_lt_of_cell? w _ h.c0
theorem Js.only {w w' : World} {X S : Nat → Prop} {m s t d : Nat} {all out : List UInt8} (h : Js w X m s t d all out) (ho : Only S w w') (hS : ∀ k, X k → ¬ S k) : Js w' X m s t d all out := by
  obtain ⟨F, G, v, xs, h1, h2, h3, h4, h5, h6, h7⟩ := h.ex
  have hl := h.lt
  have hm := hS m h.xm
  exact ⟨⟨F, G, v, xs, h1.only ho fun k hk => hS k (h6 k hk).1, h2.only ho fun k hk => hS k (h7 k hk).1, (ho.cell hl hm).trans h3, h4.only ho fun k hk => hS k (h5 k hk).1, h5, h6, h7⟩,
    (ho.cell hl hm).trans h.c0, (ho.cell hl hm).trans h.c2, (ho.cell hl hm).trans h.c3, (ho.cell hl hm).trans h.c4, (ho.cell hl hm).trans h.c5, (ho.frozen hl hm).trans h.f1, (ho.frozen hl hm).trans h.f2, h.xm⟩
/-- From w0 to w: only blocks of X and new ones have turned. -/
structure JsTo (X : Nat → Prop) (m s t d : Nat) (all out : List UInt8) (w0 w : World) : Prop where
  js : Js w (fun k => X k ∨ w0.heap.size ≤ k) m s t d all out
  only : Only X w0 w
theorem JsTo.start {w : World} {X : Nat → Prop} {m s t d : Nat} {all out : List UInt8} (h : Js w X m s t d all out) : JsTo X m s t d all out w w := ⟨h.mono fun _ => Or.inl, Only.refl _ _⟩
theorem JsTo.trans {w0 w1 w2 : World} {X : Nat → Prop} {m s t d d' : Nat} {all out all' out' : List UInt8} (h : JsTo X m s t d all out w0 w1) (k : JsTo (fun k => X k ∨ w0.heap.size ≤ k) m s t d' all' out' w1 w2) : JsTo X m s t d' all' out' w0 w2 := by
  have hs := h.only.size
  refine ⟨k.js.mono fun i hi => ?_, h.only.trans' k.only fun i hi e => ?_⟩
  · rcases hi with hi | hi
    · exact hi
    · right; omega
  · rcases e with e | e
    · exact e
    · omega
theorem JsTo.same {w0 w1 w2 : World} {X : Nat → Prop} {m s t d : Nat} {all out : List UInt8} (h : JsTo X m s t d all out w0 w1) (ho : Only (fun _ => False) w1 w2) : JsTo X m s t d all out w0 w2 :=
  ⟨h.js.only ho fun _ _ e => e, h.only.trans (ho.mono fun _ _ e => e.elim)⟩
/-- A step of the reader. -/
theorem Js.read {w w' : World} {X : Nat → Prop} {m s t d : Nat} {all out all' : List UInt8} {F G : Nat → Prop} {v : Value} {xs : List UInt8} (h : Js w X m s t d all out)
    (h1 : Rd w F s all) (h2 : Txt w G t out) (h3 : w.cell? ⟨m, 1, none⟩ = some v) (h4 : Row w 0 v xs) (h5 : ∀ k, v.ownBlock = some k → X k ∧ k ≠ m ∧ ¬ F k ∧ ¬ G k) (h6 : ∀ k, F k → X k ∧ ¬ G k ∧ k ≠ m) (h7 : ∀ k, G k → X k ∧ k ≠ m)
    (hw : Went F s all' w w') : JsTo X m s t d all' out w w' := by
  obtain ⟨F', k1, k2, k3⟩ := hw
  have hl := h.lt
  have hm : ¬ F m := fun e => (h6 m e).2.2 rfl
  refine ⟨⟨⟨F', G, v, xs, k1, h2.only k3 fun k hk e => (h6 k e).2.1 hk, (k3.cell hl hm).trans h3, h4.only k3 fun k hk => (h5 k hk).2.2.1, fun k hk => ?_, fun k hk => ?_, fun k hk => ⟨Or.inl (h7 k hk).1, (h7 k hk).2⟩⟩,
    (k3.cell hl hm).trans h.c0, (k3.cell hl hm).trans h.c2, (k3.cell hl hm).trans h.c3, (k3.cell hl hm).trans h.c4, (k3.cell hl hm).trans h.c5, (k3.frozen hl hm).trans h.f1, (k3.frozen hl hm).trans h.f2, Or.inl h.xm⟩, k3.mono fun k _ e => (h6 k e).1⟩
  · obtain ⟨e1, e2, e3, e4⟩ := h5 k hk
    refine ⟨Or.inl e1, e2, fun e => ?_, e4⟩
    rcases k2 k e with e | e
    · exact e3 e
    · have := (h4.block hk).2; omega
  · rcases k2 k hk with e | e
    · exact ⟨Or.inl (h6 k e).1, (h6 k e).2⟩
    · exact ⟨Or.inr e, fun hg => by have := h2.lt k hg; omega, by omega⟩
/-- A step of the text. -/
theorem Js.wrote {w w' : World} {X : Nat → Prop} {m s t d : Nat} {all out out' : List UInt8} {F G : Nat → Prop} {v : Value} {xs : List UInt8} (h : Js w X m s t d all out)
    (h1 : Rd w F s all) (h2 : Txt w G t out) (h3 : w.cell? ⟨m, 1, none⟩ = some v) (h4 : Row w 0 v xs) (h5 : ∀ k, v.ownBlock = some k → X k ∧ k ≠ m ∧ ¬ F k ∧ ¬ G k) (h6 : ∀ k, F k → X k ∧ ¬ G k ∧ k ≠ m) (h7 : ∀ k, G k → X k ∧ k ≠ m)
    (hw : Wrote G t out' w w') : JsTo X m s t d all out' w w' := by
  obtain ⟨G', k1, k2, k3⟩ := hw
  have hl := h.lt
  have hm : ¬ G m := fun e => (h7 m e).2 rfl
  refine ⟨⟨⟨F, G', v, xs, h1.only k3 fun k hk => (h6 k hk).2.1, k1, (k3.cell hl hm).trans h3, h4.only k3 fun k hk => (h5 k hk).2.2.2, fun k hk => ?_, fun k hk => ⟨Or.inl (h6 k hk).1, fun e => ?_, (h6 k hk).2.2⟩, fun k hk => ?_⟩,
    (k3.cell hl hm).trans h.c0, (k3.cell hl hm).trans h.c2, (k3.cell hl hm).trans h.c3, (k3.cell hl hm).trans h.c4, (k3.cell hl hm).trans h.c5, (k3.frozen hl hm).trans h.f1, (k3.frozen hl hm).trans h.f2, Or.inl h.xm⟩, k3.mono fun k _ e => (h7 k e).1⟩
  · obtain ⟨e1, e2, e3, e4⟩ := h5 k hk
    refine ⟨Or.inl e1, e2, e3, fun e => ?_⟩
    rcases k2 k e with e | e
    · exact e4 e
    · have := (h4.block hk).2; omega
  · rcases k2 k e with e | e
    · exact (h6 k hk).2.1 e
    · have := h1.lt k hk; omega
  · rcases k2 k hk with e | e
    · exact ⟨Or.inl (h7 k e).1, (h7 k e).2⟩
    · exact ⟨Or.inr e, by omega⟩
/-- Ready for a step of the reader. -/
theorem JsTo.reads {w0 w : World} {X : Nat → Prop} {m s t d : Nat} {all out : List UInt8} (h : JsTo X m s t d all out w0 w) : ∃ F, Rd w F s all ∧ ¬ F m ∧ m < w.heap.size ∧ w.cell? ⟨m, 0, none⟩ = some (.pointer (some ⟨s, 0, none⟩)) ∧
    ∀ all' w', Went F s all' w w' → JsTo X m s t d all' out w0 w' := by
  obtain ⟨F, G, v, xs, h1, h2, h3, h4, h5, h6, h7⟩ := h.js.ex
  exact ⟨F, h1, fun e => (h6 m e).2.2 rfl, h.js.lt, h.js.c0, fun all' w' hw => h.trans (h.js.read h1 h2 h3 h4 h5 h6 h7 hw)⟩
/-- Ready for a step of the text. -/
theorem JsTo.writes {w0 w : World} {X : Nat → Prop} {m s t d : Nat} {all out : List UInt8} (h : JsTo X m s t d all out w0 w) : ∃ G, Txt w G t out ∧ ∀ out' w', Wrote G t out' w w' → JsTo X m s t d all out' w0 w' := by
  obtain ⟨F, G, v, xs, h1, h2, h3, h4, h5, h6, h7⟩ := h.js.ex
  exact ⟨G, h2, fun out' w' hw => h.trans (h.js.wrote h1 h2 h3 h4 h5 h6 h7 hw)⟩
theorem Rd.went {w : World} {F : Nat → Prop} {s : Nat} {all : List UInt8} (h : Rd w F s all) : Went F s all w w := Went.start h
/-- Ready to take bytes out of the reader's room and write them. -/
theorem JsTo.takes {w0 w : World} {X : Nat → Prop} {m s t d : Nat} {all out : List UInt8} (h : JsTo X m s t d all out w0 w) : ∃ F, Rd w F s all ∧ ¬ F m ∧ m < w.heap.size ∧ w.cell? ⟨m, 0, none⟩ = some (.pointer (some ⟨s, 0, none⟩)) ∧
    ∀ bs all' w' v, NextW F s bs all' w (.returned (.tuple #[v, .nilIface])) w' → JsTo X m s t d all' out w0 w' ∧ ∃ F' G, InRoom w' F' v bs ∧ Txt w' G t out ∧ (∀ k, F' k → ¬ G k) ∧ (∀ k, G k → X k ∨ w0.heap.size ≤ k) ∧ ∀ out' w'', Wrote G t out' w' w'' → JsTo X m s t d all' out' w0 w'' := by
  obtain ⟨F, G, v, xs, h1, h2, h3, h4, h5, h6, h7⟩ := h.js.ex
  refine ⟨F, h1, fun e => (h6 m e).2.2 rfl, h.js.lt, h.js.c0, fun bs all' w' u hw => ?_⟩
  obtain ⟨u', F', he, k0, k1, k2, k3⟩ := hw
  injection he with he
  injection he with he
  injection he with he
  injection he with he
  subst he
  have hj := h.trans (h.js.read h1 h2 h3 h4 h5 h6 h7 ⟨F', k1, k2, k3⟩)
  have hl := h.js.lt
  have hm : ¬ F m := fun e => (h6 m e).2.2 rfl
  refine ⟨hj, F', G, k0, h2.only k3 fun k hk e => (h6 k e).2.1 hk, fun k hk hg => ?_, fun k hk => (h7 k hk).1, fun out' w'' hw => ?_⟩
  · rcases k2 k hk with e | e
    · exact (h6 k e).2.1 hg
    · have := h2.lt k hg; omega
  · refine hj.trans (hj.js.wrote k1 (h2.only k3 fun k hk e => (h6 k e).2.1 hk) ((k3.cell hl hm).trans h3) (h4.only k3 fun k hk => (h5 k hk).2.2.1) (fun k hk => ?_) (fun k hk => ?_) (fun k hk => (h7 k hk)) hw)
    · obtain ⟨e1, e2, e3, e4⟩ := h5 k hk
      refine ⟨e1, e2, fun e => ?_, e4⟩
      rcases k2 k e with e | e
      · exact e3 e
      · have := (h4.block hk).2; omega
    · rcases k2 k hk with e | e
      · exact ⟨(h6 k e).1, (h6 k e).2⟩
      · refine ⟨Or.inr ?_, fun hg => by have := h2.lt k hg; omega, by omega⟩
        have := h.only.size
        omega
/-- What a function that writes JSON leaves. -/
def JPost (X : Nat → Prop) (m s t d : Nat) (all out : List UInt8) (w0 : World) (e : Ending) (w' : World) : Prop := ∃ z : Int, e = .returned (.tuple #[.int .i64 z, .nilIface]) ∧ JsTo X m s t d all out w0 w'
theorem JsTo.byte {w0 w : World} {X : Nat → Prop} {m s t d : Nat} {all out : List UInt8} (h : JsTo X m s t d all out w0 w) (b : UInt8) (hl : out.length ≤ 70368744177664) :
    Calls Tryz.prog 197 #[.pointer (some ⟨t, 0, none⟩), .int .u8 (b.toNat : Int)] w fun e w' => e = .returned .nilIface ∧ JsTo X m s t d all (out ++ [b]) w0 w' := by
  obtain ⟨G, h1, h2⟩ := h.writes
  exact (writeByte t b G out w w (Wrote.start h1) hl).mono fun e w' ⟨he, hw⟩ => ⟨he, h2 _ _ hw⟩
theorem JsTo.str {w0 w : World} {X : Nat → Prop} {m s t d : Nat} {all out : List UInt8} (h : JsTo X m s t d all out w0 w) (x : ByteArray) (hx : x.size ≤ 1000000) (hl : out.length ≤ 70368744177664) :
    Calls Tryz.prog 198 #[.pointer (some ⟨t, 0, none⟩), .string x] w fun e w' => e = .returned (.tuple #[.int .i64 (x.size : Nat), .nilIface]) ∧ JsTo X m s t d all (out ++ tx x) w0 w' := by
  obtain ⟨G, h1, h2⟩ := h.writes
  exact (writeString t x G out w w (Wrote.start h1) hl hx).mono fun e w' ⟨he, hw⟩ => ⟨he, h2 _ _ hw⟩

set_option maxRecDepth 100000 in
set_option maxHeartbeats 1000000 in
theorem rwNil (X : Nat → Prop) (m s t d : Nat) (r out : List UInt8) (w0 w : World) (h : JsTo X m s t d (192 :: r) out w0 w) (hl : out.length ≤ 35184372088832) :
    Calls Tryz.prog 57 #[.iface 49 (.pointer (some ⟨t, 0, none⟩)), .pointer (some ⟨m, 0, none⟩)] w (JPost X m s t d r (out ++ [110, 117, 108, 108]) w0) := by
  obtain ⟨F, h1, h2, h3, h4, h5⟩ := h.reads
  have H1 := hid h1
  have H5 := hid h5
  clear h h1 h5
  go_enter Tryz.func57, Tryz.ntmps57
  go_wp2_with (first
    | (go_at_call 90; refine (readNil m F s r w w H1.out.went h4 h3 h2).mono ?_; rintro e w1 ⟨rfl, h1⟩; have J1 := hid (H5.out _ _ h1); clear h1)
    | (go_at_call 198; refine (J1.out.str ⟨#[110, 117, 108, 108]⟩ (by decide) (by omega)).mono ?_; rintro e w2 ⟨rfl, h2⟩; have J2 := hid h2; clear h2))
  go_ret2
  exact ⟨_, rfl, J2.out⟩
set_option maxRecDepth 100000 in
set_option maxHeartbeats 1000000 in
theorem rwBool (b : Bool) (X : Nat → Prop) (m s t d : Nat) (r out : List UInt8) (w0 w : World) (h : JsTo X m s t d ((if b then 195 else 194) :: r) out w0 w) (hl : out.length ≤ 35184372088832) :
    Calls Tryz.prog 54 #[.iface 49 (.pointer (some ⟨t, 0, none⟩)), .pointer (some ⟨m, 0, none⟩)] w (JPost X m s t d r (out ++ (if b then [116, 114, 117, 101] else [102, 97, 108, 115, 101])) w0) := by
  obtain ⟨F, h1, h2, h3, h4, h5⟩ := h.reads
  have H1 := hid h1
  have H5 := hid h5
  clear h h1 h5
  have HR := hid (readBool m b F s r w w H1.out.went h4 h3 h2)
  cases b
  · go_enter Tryz.func54, Tryz.ntmps54
    go_wp2_with (first
      | (go_at_call 89; refine HR.out.mono ?_; rintro e w1 ⟨rfl, h1⟩; have J1 := hid (H5.out _ _ h1); clear h1)
      | (go_at_call 198; refine (J1.out.str ⟨#[102, 97, 108, 115, 101]⟩ (by decide) (by omega)).mono ?_; rintro e w2 ⟨rfl, h2⟩; have J2 := hid h2; clear h2))
    go_ret2
    exact ⟨_, rfl, J2.out⟩
  · go_enter Tryz.func54, Tryz.ntmps54
    go_wp2_with (first
      | (go_at_call 89; refine HR.out.mono ?_; rintro e w1 ⟨rfl, h1⟩; have J1 := hid (H5.out _ _ h1); clear h1)
      | (go_at_call 198; refine (J1.out.str ⟨#[116, 114, 117, 101]⟩ (by decide) (by omega)).mono ?_; rintro e w2 ⟨rfl, h2⟩; have J2 := hid h2; clear h2))
    go_ret2
    exact ⟨_, rfl, J2.out⟩
end Go.Proofs.YtbgckolcimlofaaGreatDoor
namespace Go.Proofs.YtbgckolcimlofaaGreatDoor
open Go.RowKit Go.Sort YtbgckolcimlofaaGreatDoorPj

theorem decDigits_decN (u : Nat) : Go.Lib.decDigits u = decN u := by
  induction u using Nat.strongRecOn with
  | _ u ih =>
    rw [Go.Lib.decDigits, decN]
    split
    · rfl
    · rw [ih (u / 10) (by omega)]
def AppPost (sv : Value) (out : List UInt8) (w : World) (e : Ending) (w' : World) : Prop :=
  ∃ v', e = .returned v' ∧ Row w' 0 v' out ∧ Only (fun k => sv.ownBlock = some k) w w' ∧ (∀ k, v'.ownBlock = some k → sv.ownBlock = some k ∨ w.heap.size ≤ k)
theorem dec_len (u : Nat) (h : u < 18446744073709551616) : (decN u).length ≤ 20 := by
  rw [← decDigits_decN, Go.Lib.decDigits_length]
  by_cases hu : 1 ≤ u
  · have := Go.Lib.numDigits_eq u hu h
    split at this <;> omega
  · have : u = 0 := by omega
    subst this
    rw [Go.Lib.nDigits_small (by omega)]
    omega
set_option maxHeartbeats 6400000 in
set_option maxRecDepth 100000 in
theorem appendUint_small (u : Nat) (hu : u < 100) (sv : Value) (xs : List UInt8) (w : World) (hr : Row w 0 sv xs) (hl : xs.length ≤ 1000000) :
    Calls Tryz.prog 120 #[sv, .int .u64 u, .int .i64 10] w (AppPost sv (xs ++ decN u) w) := by
  have HR := hid hr
  have hdl := dec_len u (by omega)
  have hsz : (⟨(Go.Lib.decDigits u).toArray⟩ : ByteArray).size = (Go.Lib.decDigits u).length := by simp [ByteArray.size]
  have htx : tx (⟨(Go.Lib.decDigits u).toArray⟩ : ByteArray) = decN u := by rw [← decDigits_decN]; rfl
  rw [← decDigits_decN] at hdl
  have HTX := hid htx
  have HSZ := hid hsz
  clear hr htx hsz
  go_enter Tryz.func120, Tryz.ntmps120
  go_wp2_with (first
    | (go_at_call 134; refine (Tryz.internal_strconv_small u hu _).mono ?_; rintro e w' ⟨rfl, rfl⟩)
    | (at_builtin; refine row_append_str rfl _ _ rfl 0 _ xs rfl HR.out _ rfl (by rw [HSZ.out]; omega) (by omega) ?_; intro v' w1 r1 r2 r3; rw [HTX.out] at r1; have R1 := hid r1; have R2 := hid r2; have R3 := hid r3; clear r1 r2 r3))
  go_ret
  exact ⟨_, rfl, R1.out, (Only.of_grown R2.out).mono fun k _ e => e, R3.out⟩
set_option maxHeartbeats 12800000 in
set_option maxRecDepth 100000 in
theorem appendUint_big (u : Nat) (hu : 100 ≤ u) (hu64 : u < 18446744073709551616) (sv : Value) (xs : List UInt8) (w : World) (hr : Row w 0 sv xs) (hl : xs.length ≤ 1000000)
    (htab : Lib.TabIs Tryz.prog w "internal/strconv.uint64pow10" .u64 Lib.pow10Tab) :
    Calls Tryz.prog 120 #[sv, .int .u64 u, .int .i64 10] w (AppPost sv (xs ++ decN u) w) := by
  have HR := hid hr
  have hdl := dec_len u (by omega)
  clear hr
  have hu1 : 1 ≤ u := by omega
  have hnd20 : Lib.nDigits u ≤ 20 := by rw [← Go.Lib.decDigits_length, decDigits_decN]; exact hdl
  have hal : Tryz.prog.arrayLen 216 = 24 := by kernel_rfl
  have hsl : ∀ W, (Instr.sliceAt 216 (.pointer (some ⟨w.heap.size, 0, none⟩)) none (some (.int .i64 (Lib.nDigits u : Int))) none).run Tryz.prog W = .ok (.slice (some ⟨w.heap.size, 0, none⟩) (Lib.nDigits u) 24) W := fun W => by
    rw [run_sliceAt_array_h W 216 ⟨w.heap.size, 0, none⟩ (by kernel_rfl) .i64 (Lib.nDigits u : Int) (by omega) (by rw [hal]; omega)]
    go_simp
  have hH0 := Lib.holds_zero0 w 216 (Lib.nDigits u) (by omega)
  have hfmt := Tryz.internal_strconv_formatBase10 w.heap.size 0 24 u (Array.replicate (Lib.nDigits u) 0) (w.alloc (.cells Lib.zeros24 216)) hH0 (by rw [Array.size_replicate]; exact Lib.lt_pow_nDigits u) hu64 (by rw [Array.size_replicate]; omega)
  rw [Array.size_replicate] at hfmt
  have HH0 := Lib.hid hH0
  have iu : (100 : Int) ≤ (u : Int) := by omega
  clear hH0 hal
  go_enter Tryz.func120, Tryz.ntmps120
  go_wp2_with (first
    | (go_at_call 135; refine (Tryz.internal_strconv_numDigits u hu1 hu64 _ (Lib.tabIs_alloc htab _)).mono ?_; rintro e w' ⟨rfl, rfl⟩))
  go_at_call 136
  refine hfmt.mono ?_
  rintro e w' ⟨rfl, k, v', dk, rfl, hF⟩
  have hcells : ∀ j (hj : j < (decN u).length), ((putRow (fun (b : UInt8) => Value.int .u8 (b.toNat : Int)) (w.alloc (.cells Lib.zeros24 216)) w.heap.size 0 dk).drewN k).cell? ((⟨w.heap.size, 0, none⟩ : Addr).add j) = some (u8v (decN u)[j]) := by
    intro j hj
    have hjl : j < (Lib.decDigits u).length := by rw [decDigits_decN]; exact hj
    have e1 : (decN u)[j] = (Lib.decDigits u)[j] := by simp only [decDigits_decN]
    rw [e1, Lib.row_is_numeral hF j hjl, Lib.add_plain, World.cell?_drewN]
    exact cell?_putRow (fun (b : UInt8) => Value.int .u8 (b.toNat : Int)) _ w.heap.size 0 _ dk HH0.out (by rw [hF.size, Array.size_replicate]) j (by rw [hF.size]; rw [Lib.decDigits_length] at hjl; exact hjl)
  obtain ⟨os, eo⟩ := Lib.fin_at w (.cells Lib.zeros24 216) dk k 0
  have hnx2 : Below w.heap.size w ((putRow (fun (b : UInt8) => Value.int .u8 (b.toNat : Int)) (w.alloc (.cells Lib.zeros24 216)) w.heap.size 0 dk).drewN k) := by rw [eo]; exact Lib.below_grow w.heap.size w (Nat.le_refl _) k os
  generalize (putRow (fun (b : UInt8) => Value.int .u8 (b.toNat : Int)) (w.alloc (.cells Lib.zeros24 216)) w.heap.size 0 dk).drewN k = W2 at hcells hnx2 ⊢
  have ho2 : Only (fun _ => False) w W2 := Only.of_below hnx2
  have HO2 := hid ho2
  have HC2 := hid hcells
  have HR2 := hid (HR.out.only ho2 fun _ _ e => e)
  have hs2 := ho2.size
  have HL : Hid ((decN u).length = Lib.nDigits u) := hid (by rw [← decDigits_decN, Lib.decDigits_length])
  clear eo HH0 hfmt hcells hnx2 ho2
  go_wp2_with (at_builtin; refine row_append rfl _ _ rfl 0 _ xs rfl HR2.out ⟨w.heap.size, 0, none⟩ _ _ (decN u) rfl HL.out HC2.out (by omega) (by omega) ?_; intro v2 w3 r1 r2 r3; have R1 := hid r1; have R2 := hid r2; have R3 := hid r3; clear r1 r2 r3)
  go_ret
  refine ⟨v2, rfl, R1.out, (HO2.out.mono fun _ _ e => e.elim).trans ((Only.of_grown R2.out).mono fun k _ e => e), fun k hk => ?_⟩
  rcases R3.out with h | h
  · exact Or.inl (h ▸ hk)
  · rw [h] at hk
    injection hk with hk
    exact Or.inr (by omega)
theorem appendUint (u : Nat) (hu64 : u < 18446744073709551616) (sv : Value) (xs : List UInt8) (w : World) (hr : Row w 0 sv xs) (hl : xs.length ≤ 1000000)
    (htab : Lib.TabIs Tryz.prog w "internal/strconv.uint64pow10" .u64 Lib.pow10Tab) :
    Calls Tryz.prog 120 #[sv, .int .u64 u, .int .i64 10] w (AppPost sv (xs ++ decN u) w) := by
  by_cases h : u < 100
  · exact appendUint_small u h sv xs w hr hl
  · exact appendUint_big u (by omega) hu64 sv xs w hr hl htab
set_option maxHeartbeats 1000000 in
set_option maxRecDepth 100000 in
theorem appendUintP (u : Nat) (hu64 : u < 18446744073709551616) (sv : Value) (xs : List UInt8) (w : World) (hr : Row w 0 sv xs) (hl : xs.length ≤ 1000000)
    (htab : Lib.TabIs Tryz.prog w "internal/strconv.uint64pow10" .u64 Lib.pow10Tab) :
    Calls Tryz.prog 83 #[sv, .int .u64 u, .int .i64 10] w (AppPost sv (xs ++ decN u) w) := by
  have HA := hid (appendUint u hu64 sv xs w hr hl htab)
  clear hr htab
  go_enter Tryz.func83, Tryz.ntmps83
  go_wp2_with (go_at_call 120; refine HA.out.mono ?_; rintro e w1 ⟨v', rfl, h1, h2, h3⟩; have R1 := hid h1; have R2 := hid h2; have R3 := hid h3; clear h1 h2 h3)
  go_ret
  exact ⟨_, rfl, R1.out, R2.out, R3.out⟩
set_option maxHeartbeats 2000000 in
set_option maxRecDepth 100000 in
theorem appendInt_neg (u : Nat) (hu : 1 ≤ u) (hu64 : u ≤ 9223372036854775808) (sv : Value) (xs : List UInt8) (w : World) (hr : Row w 0 sv xs) (hl : xs.length ≤ 999999)
    (htab : ∀ w1, Only (fun k => sv.ownBlock = some k) w w1 → Lib.TabIs Tryz.prog w1 "internal/strconv.uint64pow10" .u64 Lib.pow10Tab) :
    Calls Tryz.prog 119 #[sv, .int .i64 (-(u : Int)), .int .i64 10] w (AppPost sv (xs ++ 45 :: decN u) w) := by
  have HR := hid hr
  have HT := hid htab
  have hwr : IntKind.u64.wrap (-IntKind.u64.wrap (-(u : Int))) = (u : Int) := by rw [IntKind.wrap_u64, IntKind.wrap_u64]; omega
  have HA : Hid (∀ (v1 : Value) (w1 : World), Row w1 0 v1 (xs ++ [45]) → w.grownBy w1 sv.ownBlock → Calls Tryz.prog 120 #[v1, .int .u64 u, .int .i64 10] w1 (AppPost v1 (xs ++ [45] ++ decN u) w1)) := hid fun v1 w1 r g => appendUint u (by omega) v1 _ w1 r (by simp; omega) (htab w1 ((Only.of_grown g).mono fun k _ e => e))
  clear hr htab
  go_enter Tryz.func119, Tryz.ntmps119
  go_wp2_with (first
    | (at_builtin; refine row_append1 rfl _ _ rfl 0 _ xs rfl HR.out 45 rfl rfl rfl (by omega) (by omega) ?_; intro v1 w1 r1 r2 r3; have A1 := hid (HA.out v1 w1 r1 r2); have R2 := hid r2; have R3 := hid r3; have hz1 := r2.size; clear r1 r2 r3)
    | (go_at_call 120; refine A1.out.mono ?_; rintro e w2 ⟨v2, rfl, h1, h2, h3⟩; have S1 := hid h1; have S2 := hid h2; have S3 := hid h3; clear h1 h2 h3))
  go_ret
  refine ⟨v2, rfl, by simpa using S1.out, ((Only.of_grown R2.out).mono fun k _ e => e).trans' S2.out fun i hi e => ?_, fun k hk => ?_⟩
  · rcases R3.out with h | h
    · rw [← h]; exact e
    · rw [h] at e
      injection e with e
      omega
  · rcases S3.out k hk with h | h
    · rcases R3.out with h' | h'
      · exact Or.inl (h' ▸ h)
      · rw [h'] at h
        injection h with h
        exact Or.inr (by omega)
    · exact Or.inr (by omega)
set_option maxHeartbeats 2000000 in
set_option maxRecDepth 100000 in
theorem appendInt_pos (u : Nat) (hu64 : u ≤ 9223372036854775807) (sv : Value) (xs : List UInt8) (w : World) (hr : Row w 0 sv xs) (hl : xs.length ≤ 999999)
    (htab : ∀ w1, Only (fun k => sv.ownBlock = some k) w w1 → Lib.TabIs Tryz.prog w1 "internal/strconv.uint64pow10" .u64 Lib.pow10Tab) :
    Calls Tryz.prog 119 #[sv, .int .i64 (u : Nat), .int .i64 10] w (AppPost sv (xs ++ decN u) w) := by
  have HA := hid (appendUint u (by omega) sv xs w hr (by omega) (htab w (Only.refl _ _)))
  have hwr : IntKind.u64.wrap (u : Int) = (u : Int) := by rw [IntKind.wrap_u64]; omega
  clear hr htab
  go_enter Tryz.func119, Tryz.ntmps119
  go_wp2_with (go_at_call 120; refine HA.out.mono ?_; rintro e w1 ⟨v', rfl, h1, h2, h3⟩; have R1 := hid h1; have R2 := hid h2; have R3 := hid h3; clear h1 h2 h3)
  go_ret
  exact ⟨_, rfl, R1.out, R2.out, R3.out⟩
set_option maxHeartbeats 1000000 in
set_option maxRecDepth 100000 in
theorem appendIntP (i : Int) (h0 : -9223372036854775808 ≤ i) (h1 : i ≤ 9223372036854775807) (sv : Value) (xs : List UInt8) (w : World) (hr : Row w 0 sv xs) (hl : xs.length ≤ 999999)
    (htab : ∀ w1, Only (fun k => sv.ownBlock = some k) w w1 → Lib.TabIs Tryz.prog w1 "internal/strconv.uint64pow10" .u64 Lib.pow10Tab) :
    Calls Tryz.prog 81 #[sv, .int .i64 i, .int .i64 10] w (AppPost sv (xs ++ decI i) w) := by
  have HA : Hid (Calls Tryz.prog 119 #[sv, .int .i64 i, .int .i64 10] w (AppPost sv (xs ++ decI i) w)) := hid (by
    by_cases hi : i < 0
    · obtain ⟨u, rfl⟩ : ∃ u : Nat, i = -(u : Int) := ⟨i.natAbs, by omega⟩
      rw [decI, if_pos hi, show (- -(u : Int)).toNat = u by omega]
      exact appendInt_neg u (by omega) (by omega) sv xs w hr hl htab
    · obtain ⟨u, rfl⟩ : ∃ u : Nat, i = (u : Int) := ⟨i.toNat, by omega⟩
      rw [decI, if_neg hi, Int.toNat_natCast]
      exact appendInt_pos u (by omega) sv xs w hr hl htab)
  clear hr htab
  go_enter Tryz.func81, Tryz.ntmps81
  go_wp2_with (go_at_call 119; refine HA.out.mono ?_; rintro e w1 ⟨v', rfl, h1, h2, h3⟩; have R1 := hid h1; have R2 := hid h2; have R3 := hid h3; clear h1 h2 h3)
  go_ret
  exact ⟨_, rfl, R1.out, R2.out, R3.out⟩
end Go.Proofs.YtbgckolcimlofaaGreatDoor
