/-
  ReadNil and ReadBool; where the byte lies ahead.
  Write, WriteByte and WriteString of the text that is built; while it is below the bound.
-/
import Derived.Test.YtbgckolcimlofaaGreatDoorProg
import Derived.Test.YtbgckolcimlofaaGreatDoorT07
import Derived.Test.YtbgckolcimlofaaGreatDoorT09
import Derived.Test.YtbgckolcimlofaaGreatDoorT10
set_option linter.unusedVariables false
set_option linter.unusedSimpArgs false
namespace Go.Proofs.YtbgckolcimlofaaGreatDoor
open Go.RowKit YtbgckolcimlofaaGreatDoorPj

/-- The reader went on from w; 'all' lies ahead of it now. -/
def Went (F : Nat → Prop) (s : Nat) (all : List UInt8) (w w' : World) : Prop := ∃ F', Rd w' F' s all ∧ Newer F F' w ∧ Only F w w'
theorem Went.start {F : Nat → Prop} {s : Nat} {all : List UInt8} {w : World} (h : Rd w F s all) : Went F s all w w := ⟨F, h, Newer.refl _ _, Only.refl _ _⟩
theorem Newer.trans {F F1 F2 : Nat → Prop} {w w1 : World} (h1 : Newer F F1 w) (ho : Only F w w1) (h2 : Newer F1 F2 w1) : Newer F F2 w := fun k hk => by
  have := ho.size
  rcases h2 k hk with h | h
  · exact h1 k h
  · right; omega
theorem Only.newer {F F1 : Nat → Prop} {w w1 w2 : World} (ho : Only F w w1) (h1 : Newer F F1 w) (h2 : Only F1 w1 w2) : Only F w w2 :=
  ho.trans' h2 fun i hi h => by
    rcases h1 i h with h | h
    · exact h
    · omega
theorem Went.size {F : Nat → Prop} {s : Nat} {all : List UInt8} {w w' : World} (h : Went F s all w w') : w.heap.size ≤ w'.heap.size := by
  obtain ⟨F', _, _, h⟩ := h
  exact h.size
theorem Went.cell {F : Nat → Prop} {s : Nat} {all : List UInt8} {w w' : World} (h : Went F s all w w') {b o : Nat} (hb : b < w.heap.size) (hF : ¬ F b) : w'.cell? ⟨b, o, none⟩ = w.cell? ⟨b, o, none⟩ := by
  obtain ⟨F', _, _, h⟩ := h
  exact h.cell hb hF
theorem Went.only {F : Nat → Prop} {s : Nat} {all : List UInt8} {w w1 w2 : World} (h : Went F s all w w1) (ho : Only (fun _ => False) w1 w2) : Went F s all w w2 := by
  obtain ⟨F', h1, h2, h3⟩ := h
  exact ⟨F', h1.only ho (fun _ _ h => h), h2, h3.trans (ho.mono fun _ _ h => h.elim)⟩
theorem peekByte_w {F : Nat → Prop} {s : Nat} {b : UInt8} {r : List UInt8} {w0 w : World} (h : Went F s (b :: r) w0 w) :
    Calls Tryz.prog 45 #[.pointer (some ⟨s, 0, none⟩)] w (fun e w' => e = .returned (.tuple #[.int .u8 (b.toNat : Int), .nilIface]) ∧ Went F s (b :: r) w0 w') := by
  obtain ⟨F1, h1, h2, h3⟩ := h
  refine (peekByte w F1 s b r h1).mono ?_
  rintro e w' ⟨rfl, F2, k1, k2, k3⟩
  exact ⟨rfl, F2, k1, h2.trans h3 k2, h3.newer h2 k3⟩
theorem skip_w {F : Nat → Prop} {s n : Nat} {all : List UInt8} {w0 w : World} (h : Went F s all w0 w) (hn : n ≤ all.length) :
    Calls Tryz.prog 68 #[.pointer (some ⟨s, 0, none⟩), .int .i64 (n : Nat)] w (fun e w' => e = .returned (.tuple #[.int .i64 (n : Nat), .nilIface]) ∧ Went F s (all.drop n) w0 w') := by
  obtain ⟨F1, h1, h2, h3⟩ := h
  refine (skip w F1 s n all h1 hn).mono ?_
  rintro e w' ⟨rfl, F2, k1, k2, k3⟩
  exact ⟨rfl, F2, k1, h2.trans h3 k2, h3.newer h2 k3⟩
def NextW (F : Nat → Prop) (s : Nat) (bs all : List UInt8) (w0 : World) (e : Ending) (w' : World) : Prop :=
  ∃ v F', e = .returned (.tuple #[v, .nilIface]) ∧ InRoom w' F' v bs ∧ Rd w' F' s all ∧ Newer F F' w0 ∧ Only F w0 w'
theorem NextW.went {F : Nat → Prop} {s : Nat} {bs all : List UInt8} {w0 w' : World} {v : Value} (h : NextW F s bs all w0 (.returned v) w') : Went F s all w0 w' := by
  obtain ⟨v', F', _, _, h1, h2, h3⟩ := h
  exact ⟨F', h1, h2, h3⟩
theorem next_w {F : Nat → Prop} {s n : Nat} {bs r : List UInt8} {w0 w : World} (h : Went F s (bs ++ r) w0 w) (hn : bs.length = n) :
    Calls Tryz.prog 69 #[.pointer (some ⟨s, 0, none⟩), .int .i64 (n : Nat)] w (NextW F s bs r w0) := by
  subst hn
  obtain ⟨F1, h1, h2, h3⟩ := h
  refine (next w F1 s bs.length (bs ++ r) h1 (by simp)).mono ?_
  rintro e w' ⟨v, F2, rfl, k0, k1, k2, k3⟩
  rw [List.take_left] at k0
  rw [List.drop_left] at k1
  exact ⟨v, F2, rfl, k0, k1, h2.trans h3 k2, h3.newer h2 k3⟩
theorem peek_w {F : Nat → Prop} {s n : Nat} {bs r : List UInt8} {w0 w : World} (h : Went F s (bs ++ r) w0 w) (hn : bs.length = n) :
    Calls Tryz.prog 96 #[.pointer (some ⟨s, 0, none⟩), .int .i64 (n : Nat)] w (NextW F s bs (bs ++ r) w0) := by
  subst hn
  obtain ⟨F1, h1, h2, h3⟩ := h
  refine (peek w F1 s bs.length (bs ++ r) h1 (by simp)).mono ?_
  rintro e w' ⟨v, F2, rfl, k0, k1, k2, k3⟩
  rw [List.take_left] at k0
  exact ⟨v, F2, rfl, k0, k1, h2.trans h3 k2, h3.newer h2 k3⟩
/-- What a method of the Reader that moves on leaves. -/
def GotW (F : Nat → Prop) (s : Nat) (all : List UInt8) (v : Value) (w : World) (e : Ending) (w' : World) : Prop := e = .returned v ∧ Went F s all w w'

set_option maxRecDepth 100000 in
set_option maxHeartbeats 1000000 in
theorem readNil (m : Nat) (F : Nat → Prop) (s : Nat) (r : List UInt8) (w w0 : World) (h : Went F s (192 :: r) w0 w) (c0 : w.cell? ⟨m, 0, none⟩ = some (.pointer (some ⟨s, 0, none⟩))) (hm : m < w0.heap.size) (hF : ¬ F m) :
    Calls Tryz.prog 90 #[.pointer (some ⟨m, 0, none⟩)] w (GotW F s r .nilIface w0) := by
  have HW := hid h
  have HC : Hid (∀ a w1, Went F s a w0 w1 → w1.cell? ⟨m, 0, none⟩ = some (.pointer (some ⟨s, 0, none⟩))) := hid fun a w1 h1 => (h1.cell hm hF).trans ((h.cell hm hF).symm.trans c0)
  clear h
  go_enter Tryz.func90, Tryz.ntmps90
  go_wp2_with (first
    | (go_at_call 45; refine (peekByte_w HW.out).mono ?_; rintro e w1 ⟨rfl, h1⟩; have k0 := HC.out _ _ h1; have H1 := hid h1; clear h1)
    | (go_at_call 68; refine (skip_w (n := 1) H1.out (by simp)).mono ?_; rintro e w2 ⟨rfl, h2⟩; have H2 := hid h2; clear h2))
  go_ret
  exact ⟨rfl, H2.out⟩
set_option maxRecDepth 100000 in
set_option maxHeartbeats 1000000 in
theorem readBool (m : Nat) (b : Bool) (F : Nat → Prop) (s : Nat) (r : List UInt8) (w w0 : World) (h : Went F s ((if b then 195 else 194) :: r) w0 w) (c0 : w.cell? ⟨m, 0, none⟩ = some (.pointer (some ⟨s, 0, none⟩))) (hm : m < w0.heap.size) (hF : ¬ F m) :
    Calls Tryz.prog 89 #[.pointer (some ⟨m, 0, none⟩)] w (GotW F s r (.tuple #[.bool b, .nilIface]) w0) := by
  have HC : Hid (∀ a w1, Went F s a w0 w1 → w1.cell? ⟨m, 0, none⟩ = some (.pointer (some ⟨s, 0, none⟩))) := hid fun a w1 h1 => (h1.cell hm hF).trans ((h.cell hm hF).symm.trans c0)
  cases b
  all_goals
    have HW := hid h
    clear h
    go_enter Tryz.func89, Tryz.ntmps89
    go_wp2_with (first
      | (go_at_call 45; refine (peekByte_w HW.out).mono ?_; rintro e w1 ⟨rfl, h1⟩; have k0 := HC.out _ _ h1; have H1 := hid h1; clear h1)
      | (go_at_call 68; refine (skip_w (n := 1) H1.out (by simp)).mono ?_; rintro e w2 ⟨rfl, h2⟩; have H2 := hid h2; clear h2))
    go_ret2
    exact ⟨rfl, H2.out⟩
end Go.Proofs.YtbgckolcimlofaaGreatDoor
namespace Go.Proofs.YtbgckolcimlofaaGreatDoor
open Go.RowKit YtbgckolcimlofaaGreatDoorPj

/-- What JSON is written to. -/
structure Txt (w : World) (G : Nat → Prop) (t : Nat) (out : List UInt8) : Prop where
  ex : ∃ v, w.cell? ⟨t, 0, none⟩ = some v ∧ Row w 0 v out ∧ ∀ k, v.ownBlock = some k → G k ∧ k ≠ t
  fz : w.frozen? ⟨t, 0, none⟩ = false
  gt : G t
  lt : ∀ k, G k → k < w.heap.size
theorem Txt.only {w w' : World} {G S : Nat → Prop} {t : Nat} {out : List UInt8} (h : Txt w G t out) (ho : Only S w w') (hS : ∀ k, G k → ¬ S k) : Txt w' G t out := by
  have hl := h.lt t h.gt
  have ht := hS t h.gt
  obtain ⟨v, c0, hr, hk⟩ := h.ex
  exact ⟨⟨v, (ho.cell hl ht).trans c0, hr.only ho fun k e => hS k (hk k e).1, hk⟩, (ho.frozen hl ht).trans h.fz, h.gt, fun k hk => Nat.lt_of_lt_of_le (h.lt k hk) ho.size⟩
def Wrote (G : Nat → Prop) (t : Nat) (out : List UInt8) (w w' : World) : Prop := ∃ G', Txt w' G' t out ∧ Newer G G' w ∧ Only G w w'
theorem Wrote.start {G : Nat → Prop} {t : Nat} {out : List UInt8} {w : World} (h : Txt w G t out) : Wrote G t out w w := ⟨G, h, Newer.refl _ _, Only.refl _ _⟩
theorem Wrote.size {G : Nat → Prop} {t : Nat} {out : List UInt8} {w w' : World} (h : Wrote G t out w w') : w.heap.size ≤ w'.heap.size := by
  obtain ⟨F', _, _, h⟩ := h
  exact h.size
theorem Wrote.cell {G : Nat → Prop} {t : Nat} {out : List UInt8} {w w' : World} (h : Wrote G t out w w') {b o : Nat} (hb : b < w.heap.size) (hF : ¬ G b) : w'.cell? ⟨b, o, none⟩ = w.cell? ⟨b, o, none⟩ := by
  obtain ⟨F', _, _, h⟩ := h
  exact h.cell hb hF
theorem Wrote.same {G : Nat → Prop} {t : Nat} {out : List UInt8} {w w1 w2 : World} (h : Wrote G t out w w1) (ho : Only (fun _ => False) w1 w2) : Wrote G t out w w2 := by
  obtain ⟨F', h1, h2, h3⟩ := h
  exact ⟨F', h1.only ho (fun _ _ h => h), h2, h3.trans (ho.mono fun _ _ h => h.elim)⟩
theorem Row.isSlice {w : World} {B : Nat} {v : Value} {xs : List UInt8} (h : Row w B v xs) : ∃ A n c, v = .slice A n c := by
  rcases h.open with ⟨rfl, _⟩ | ⟨g, cap, rfl, _⟩
  · exact ⟨_, _, _, rfl⟩
  · exact ⟨_, _, _, rfl⟩
/-- A store of a row that has grown. -/
theorem Txt.grown {w w1 : World} {G : Nat → Prop} {t : Nat} {out out' : List UInt8} {v v' : Value} (h : Txt w G t out) (c0 : w.cell? ⟨t, 0, none⟩ = some v) (hk : ∀ k, v.ownBlock = some k → G k ∧ k ≠ t) (hg : w.grownBy w1 v.ownBlock) (hr : Row w1 0 v' out') (hat : ∀ k, v'.ownBlock = some k → v.ownBlock = some k ∨ w.heap.size ≤ k) :
    ∃ G', Txt (w1.setCell ⟨t, 0, none⟩ v') G' t out' ∧ Newer G G' w ∧ Only G w (w1.setCell ⟨t, 0, none⟩ v') := by
  have hl := h.lt t h.gt
  have ho := Only.of_grown hg
  have hnt : ¬ (v.ownBlock = some t) := fun e => (hk t e).2 rfl
  have k0 := (ho.cell (o := 0) hl hnt).trans c0
  have kf := (ho.frozen (o := 0) hl hnt).trans h.fz
  have hos := ho.size
  have ho2 : Only (fun k => k = t) w1 (w1.setCell ⟨t, 0, none⟩ v') := Only.setCell (S := fun k => k = t) (p := ⟨t, 0, none⟩) (Only.refl _ _) (fun _ => rfl) _
  refine ⟨fun k => G k ∨ v'.ownBlock = some k, ⟨⟨v', by go_simp, hr.only ho2 (fun k e e2 => ?_), fun k e => ⟨Or.inr e, ?_⟩⟩, by go_simp, Or.inl h.gt, fun k hk' => ?_⟩, fun k hk' => ?_, ?_⟩
  · have e2 : k = t := e2
    subst e2
    rcases hat k e with e' | e'
    · exact hnt e'
    · omega
  · rintro rfl
    rcases hat k e with e' | e'
    · exact hnt e'
    · omega
  · have : k < w1.heap.size := by
      rcases hk' with hk' | hk'
      · have := h.lt k hk'; omega
      · exact (hr.block hk').2
    simpa using this
  · rcases hk' with hk' | hk'
    · exact Or.inl hk'
    · rcases hat k hk' with e | e
      · exact Or.inl (hk k e).1
      · exact Or.inr e
  · exact (ho.mono fun k _ e => (hk k e).1).trans (ho2.mono fun k _ e => e ▸ h.gt)
def TxtPost (G : Nat → Prop) (t : Nat) (out : List UInt8) (v : Value) (w0 : World) (e : Ending) (w' : World) : Prop := e = .returned v ∧ Wrote G t out w0 w'
theorem Wrote.step {G G1 : Nat → Prop} {t : Nat} {out : List UInt8} {w0 w w' : World} (n1 : Newer G G1 w0) (o1 : Only G w0 w) (h : ∃ G', Txt w' G' t out ∧ Newer G1 G' w ∧ Only G1 w w') : Wrote G t out w0 w' := by
  obtain ⟨G', h1, h2, h3⟩ := h
  exact ⟨G', h1, n1.trans o1 h2, o1.newer n1 h3⟩
set_option maxRecDepth 100000 in
set_option maxHeartbeats 1000000 in
theorem writeByte (t : Nat) (b : UInt8) (G : Nat → Prop) (out : List UInt8) (w0 w : World) (h : Wrote G t out w0 w) (hl : out.length ≤ 70368744177664) :
    Calls Tryz.prog 197 #[.pointer (some ⟨t, 0, none⟩), .int .u8 (b.toNat : Int)] w (TxtPost G t (out ++ [b]) .nilIface w0) := by
  obtain ⟨G1, h, n1, o1⟩ := h
  obtain ⟨v, c0, hr, hk⟩ := h.ex
  have HH := hid h
  have HR := hid hr
  have HK := hid hk
  have HN := hid n1
  have HO := hid o1
  have htl := h.lt t h.gt
  have hne : ¬ w.heap.size = t := by omega
  have hf0 := h.fz
  have C0 := hid c0
  clear h hr hk n1 o1
  go_enter Tryz.func197, Tryz.ntmps197
  go_wp2_with (at_builtin; refine row_append1 rfl _ _ rfl 0 v _ rfl HR.out b rfl rfl rfl (by omega) (by omega) ?_; intro v' w1 r1 r2 r3; obtain ⟨A', n', c', rfl⟩ := r1.isSlice; have R1 := hid r1; have R2 := hid r2; have R3 := hid r3; have htn : ¬ v.ownBlock = some t := (fun e => (HK.out t e).2 rfl); have k0 := ((Only.of_grown r2).cell (o := 0) htl htn).trans c0; have kf := ((Only.of_grown r2).frozen (o := 0) htl htn).trans hf0; clear r1 r2 r3 htn)
  go_ret
  refine ⟨rfl, Wrote.step HN.out HO.out (HH.out.grown C0.out HK.out R2.out R1.out fun k e => ?_)⟩
  rcases R3.out with h | h
  · exact Or.inl (h ▸ e)
  · rw [h] at e
    injection e with e
    exact Or.inr (by omega)
set_option maxRecDepth 100000 in
set_option maxHeartbeats 1000000 in
theorem writeString (t : Nat) (x : ByteArray) (G : Nat → Prop) (out : List UInt8) (w0 w : World) (h : Wrote G t out w0 w) (hl : out.length ≤ 70368744177664) (hx : x.size ≤ 1000000) :
    Calls Tryz.prog 198 #[.pointer (some ⟨t, 0, none⟩), .string x] w (TxtPost G t (out ++ tx x) (.tuple #[.int .i64 (x.size : Nat), .nilIface]) w0) := by
  obtain ⟨G1, h, n1, o1⟩ := h
  obtain ⟨v, c0, hr, hk⟩ := h.ex
  have HH := hid h
  have HR := hid hr
  have HK := hid hk
  have HN := hid n1
  have HO := hid o1
  have htl := h.lt t h.gt
  have hf0 := h.fz
  have C0 := hid c0
  clear h hr hk n1 o1
  go_enter Tryz.func198, Tryz.ntmps198
  go_wp2_with (at_builtin; refine row_append_str rfl _ _ rfl 0 v _ rfl HR.out x rfl (by omega) (by omega) ?_; intro v' w1 r1 r2 r3; obtain ⟨A', n', c', rfl⟩ := r1.isSlice; have R1 := hid r1; have R2 := hid r2; have R3 := hid r3; have htn : ¬ v.ownBlock = some t := (fun e => (HK.out t e).2 rfl); have k0 := ((Only.of_grown r2).cell (o := 0) htl htn).trans c0; have kf := ((Only.of_grown r2).frozen (o := 0) htl htn).trans hf0; clear r1 r2 r3 htn)
  go_ret2
  exact ⟨rfl, Wrote.step HN.out HO.out (HH.out.grown C0.out HK.out R2.out R1.out R3.out)⟩
set_option maxRecDepth 100000 in
set_option maxHeartbeats 1000000 in
theorem write (t : Nat) (p : Value) (bs : List UInt8) (F : Nat → Prop) (G : Nat → Prop) (out : List UInt8) (w0 w : World) (h : Wrote G t out w0 w) (hl : out.length ≤ 70368744177664) (hp : InRoom w F p bs) (h0 : 0 < bs.length) :
    Calls Tryz.prog 196 #[.pointer (some ⟨t, 0, none⟩), p] w (TxtPost G t (out ++ bs) (.tuple #[.int .i64 (bs.length : Nat), .nilIface]) w0) := by
  obtain ⟨G1, h, n1, o1⟩ := h
  obtain ⟨v, c0, hr, hk⟩ := h.ex
  obtain ⟨g, o, cap, rfl, _, hc1, hc2, hb⟩ := hp.get h0
  have HB : Hid (∀ j (hj : j < bs.length), w.cell? ((⟨g, o, none⟩ : Addr).add j) = some (u8v bs[j])) := hid fun j hj => by rw [Addr.add_lit]; exact hb j hj
  generalize hL : bs.length = L at hc1 h0 ⊢
  have HL := hid hL
  have HH := hid h
  have HR := hid hr
  have HK := hid hk
  have HN := hid n1
  have HO := hid o1
  have htl := h.lt t h.gt
  have hf0 := h.fz
  have C0 := hid c0
  clear h hr hk n1 o1 hL hb hp
  go_enter Tryz.func196, Tryz.ntmps196
  go_wp2_with (at_builtin; refine row_append rfl _ _ rfl 0 v _ rfl HR.out _ _ _ bs rfl HL.out HB.out (by have := HL.out; omega) (by omega) ?_; intro v' w1 r1 r2 r3; obtain ⟨A', n', c', rfl⟩ := r1.isSlice; have R1 := hid r1; have R2 := hid r2; have R3 := hid r3; have htn : ¬ v.ownBlock = some t := (fun e => (HK.out t e).2 rfl); have k0 := ((Only.of_grown r2).cell (o := 0) htl htn).trans c0; have kf := ((Only.of_grown r2).frozen (o := 0) htl htn).trans hf0; clear r1 r2 r3 htn)
  go_ret2
  refine ⟨rfl, Wrote.step HN.out HO.out (HH.out.grown C0.out HK.out R2.out R1.out fun k e => ?_)⟩
  rcases R3.out with h | h
  · exact Or.inl (h ▸ e)
  · rw [h] at e
    injection e with e
    exact Or.inr (by omega)
end Go.Proofs.YtbgckolcimlofaaGreatDoor
