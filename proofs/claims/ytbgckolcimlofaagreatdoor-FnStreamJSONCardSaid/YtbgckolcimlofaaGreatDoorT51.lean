/-
  reading: a new reader over the bytes; no conditions.
  StreamJSON answers the JSON of the value whose bytes it gets; where the tables are laid.
  FnStreamJSON returns true and leaves the heap as it was; where the library variables hold what the row lists.
-/
import Derived.Test.YtbgckolcimlofaaGreatDoorProg
import Derived.Test.YtbgckolcimlofaaGreatDoorT50
import Derived.Test.YtbgckolcimlofaaGreatDoorT18
import Derived.Test.YtbgckolcimlofaaGreatDoorT20
import Derived.Test.YtbgckolcimlofaaGreatDoorT22
import Derived.Test.YtbgckolcimlofaaGreatDoorT23
import Derived.Test.YtbgckolcimlofaaGreatDoorT24
import Derived.Deep.DeepMust
set_option linter.unusedVariables false
set_option linter.unusedSimpArgs false
namespace Go.Proofs.YtbgckolcimlofaaGreatDoor
open Go.RowKit YtbgckolcimlofaaGreatDoorPj

def Src0 (d : Addr) : Obj := .cells #[.iface 65 (.pointer (some d)), .slice none 0 0, .int .i64 0, .int .i64 64, .nilIface] 107
def Rdr0 (s : Nat) : Obj := .cells #[.pointer (some ⟨s, 0, none⟩), .slice none 0 0, .int .i64 0, .int .i64 0, .int .u32 0, .int .u64 0] 98
set_option maxRecDepth 100000 in
set_option maxHeartbeats 4000000 in
theorem newSource (w : World) (d : Addr) : Calls Tryz.prog 39 #[.iface 65 (.pointer (some d)), .int .i64 64] w fun e w' => e = .returned (.pointer (some ⟨w.heap.size, 0, none⟩)) ∧ w' = w.alloc (Src0 d) := by
  go_enter Tryz.func39, Tryz.ntmps39
  go_wp2
  go_ret
  exact ⟨rfl, rfl⟩
set_option maxRecDepth 100000 in
set_option maxHeartbeats 4000000 in
theorem newReader (w : World) (d : Addr) : Calls Tryz.prog 25 #[.iface 65 (.pointer (some d)), .int .i64 64] w fun e w' => e = .returned (.pointer (some ⟨w.heap.size + 1, 0, none⟩)) ∧ w' = (w.alloc (Src0 d)).alloc (Rdr0 w.heap.size) := by
  have HN := hid (newSource w d)
  go_enter Tryz.func25, Tryz.ntmps25
  go_wp2_with (go_at_call 39; refine HN.out.mono ?_; rintro e w1 ⟨rfl, rfl⟩)
  go_ret
  refine ⟨?_, rfl⟩
  simp
set_option maxRecDepth 100000 in
set_option maxHeartbeats 4000000 in
theorem setMaxEl (w : World) (m : Nat) (v : Value) (c4 : w.cell? ⟨m, 4, none⟩ = some v) (f4 : w.frozen? ⟨m, 4, none⟩ = false) : Calls Tryz.prog 27 #[.pointer (some ⟨m, 0, none⟩), .int .u32 1048576] w fun e w' => e = .returned (.tuple #[]) ∧ w' = w.setCell ⟨m, 4, none⟩ (.int .u32 1048576) := by
  go_enter Tryz.func27, Tryz.ntmps27
  go_wp2
  go_end0
  exact ⟨rfl, rfl⟩
set_option maxRecDepth 100000 in
set_option maxHeartbeats 4000000 in
theorem setMaxSt (w : World) (m : Nat) (v : Value) (c5 : w.cell? ⟨m, 5, none⟩ = some v) (f5 : w.frozen? ⟨m, 5, none⟩ = false) : Calls Tryz.prog 28 #[.pointer (some ⟨m, 0, none⟩), .int .u64 1048576] w fun e w' => e = .returned (.tuple #[]) ∧ w' = w.setCell ⟨m, 5, none⟩ (.int .u64 1048576) := by
  go_enter Tryz.func28, Tryz.ntmps28
  go_wp2
  go_end0
  exact ⟨rfl, rfl⟩
/-- A reader made anew. -/
structure NewRd (w0 w : World) (m s : Nat) (bs : List UInt8) : Prop where
  only : Only (fun _ => False) w0 w
  rd : ∃ F, Rd w F s bs ∧ ∀ k, F k → w0.heap.size ≤ k ∧ k ≠ m
  hm : w0.heap.size ≤ m
  c0 : w.cell? ⟨m, 0, none⟩ = some (.pointer (some ⟨s, 0, none⟩))
  c1 : w.cell? ⟨m, 1, none⟩ = some (.slice none 0 0)
  c2 : w.cell? ⟨m, 2, none⟩ = some (.int .i64 0)
  c3 : w.cell? ⟨m, 3, none⟩ = some (.int .i64 0)
  c4 : w.cell? ⟨m, 4, none⟩ = some (.int .u32 1048576)
  c5 : w.cell? ⟨m, 5, none⟩ = some (.int .u64 1048576)
  f1 : w.frozen? ⟨m, 1, none⟩ = false
  f2 : w.frozen? ⟨m, 2, none⟩ = false
def Drops0 (g n cap k : Nat) : Obj := .cells #[.slice (some ⟨g, 0, none⟩) n cap, .int .i64 (k : Nat)] 68
theorem NewRd.make {w0 w1 : World} {g cap k : Nat} {bs : List UInt8} (hbig : bs.length ≤ 1000000000) (hk : bs.length ≤ k) (hk2 : k ≤ 9223372036854775807) (hc1 : bs.length ≤ cap) (hc2 : cap ≤ maxLen) (hg : w0.heap.size ≤ g) (hr : Row w1 w0.heap.size (.slice (some ⟨g, 0, none⟩) bs.length cap) bs) (ho : Only (fun _ => False) w0 w1) :
    NewRd w0 (((((w1.alloc (Drops0 g bs.length cap k)).alloc (Src0 ⟨w1.heap.size, 0, none⟩)).alloc (Rdr0 (w1.heap.size + 1))).setCell ⟨w1.heap.size + 2, 4, none⟩ (.int .u32 1048576)).setCell ⟨w1.heap.size + 2, 5, none⟩ (.int .u64 1048576)) (w1.heap.size + 2) (w1.heap.size + 1) bs := by
  have hs0 := ho.size
  have hgw : g < w1.heap.size := (hr.block (k := g) rfl).2
  unfold Drops0 Src0 Rdr0
  generalize hW : (((((w1.alloc (.cells #[.slice (some ⟨g, 0, none⟩) bs.length cap, .int .i64 (k : Nat)] 68)).alloc (.cells #[.iface 65 (.pointer (some ⟨w1.heap.size, 0, none⟩)), .slice none 0 0, .int .i64 0, .int .i64 64, .nilIface] 107)).alloc (.cells #[.pointer (some ⟨w1.heap.size + 1, 0, none⟩), .slice none 0 0, .int .i64 0, .int .i64 0, .int .u32 0, .int .u64 0] 98)).setCell ⟨w1.heap.size + 2, 4, none⟩ (.int .u32 1048576)).setCell ⟨w1.heap.size + 2, 5, none⟩ (.int .u64 1048576)) = W
  have hO : Only (fun _ => False) w1 W := by
    rw [← hW]
    have h3 : Only (fun _ => False) w1 (((w1.alloc (.cells #[.slice (some ⟨g, 0, none⟩) bs.length cap, .int .i64 (k : Nat)] 68)).alloc (.cells #[.iface 65 (.pointer (some ⟨w1.heap.size, 0, none⟩)), .slice none 0 0, .int .i64 0, .int .i64 64, .nilIface] 107)).alloc (.cells #[.pointer (some ⟨w1.heap.size + 1, 0, none⟩), .slice none 0 0, .int .i64 0, .int .i64 0, .int .u32 0, .int .u64 0] 98)) := ((Only.refl _ _).alloc _ |>.alloc _).alloc _
    refine (h3.setCell (p := ⟨w1.heap.size + 2, 4, none⟩) (fun e => ?_) _).setCell (p := ⟨w1.heap.size + 2, 5, none⟩) (fun e => ?_) _
    · have e : w1.heap.size + 2 < w1.heap.size := e; omega
    · have e : w1.heap.size + 2 < w1.heap.size := e; omega
  have hsz : W.heap.size = w1.heap.size + 3 := by rw [← hW]; simp
  have x0 : W.cell? ⟨w1.heap.size, 0, none⟩ = some (.slice (some ⟨g, 0, none⟩) bs.length cap) := by rw [← hW]; go_simp
  have x1 : W.cell? ⟨w1.heap.size, 1, none⟩ = some (.int .i64 (k : Nat)) := by rw [← hW]; go_simp
  have xf : W.frozen? ⟨w1.heap.size, 0, none⟩ = false := by rw [← hW]; go_simp
  have y0 : W.cell? ⟨w1.heap.size + 1, 0, none⟩ = some (.iface 65 (.pointer (some ⟨w1.heap.size, 0, none⟩))) := by rw [← hW]; go_simp
  have y1 : W.cell? ⟨w1.heap.size + 1, 1, none⟩ = some (.slice none 0 0) := by rw [← hW]; go_simp
  have y2 : W.cell? ⟨w1.heap.size + 1, 2, none⟩ = some (.int .i64 0) := by rw [← hW]; go_simp
  have y3 : W.cell? ⟨w1.heap.size + 1, 3, none⟩ = some (.int .i64 64) := by rw [← hW]; go_simp
  have y4 : W.cell? ⟨w1.heap.size + 1, 4, none⟩ = some .nilIface := by rw [← hW]; go_simp
  have yf1 : W.frozen? ⟨w1.heap.size + 1, 1, none⟩ = false := by rw [← hW]; go_simp
  have yf2 : W.frozen? ⟨w1.heap.size + 1, 2, none⟩ = false := by rw [← hW]; go_simp
  have yf4 : W.frozen? ⟨w1.heap.size + 1, 4, none⟩ = false := by rw [← hW]; go_simp
  have hr2 := hr.only hO (fun _ _ e => e)
  refine ⟨ho.trans hO, ⟨fun k => k = w1.heap.size ∨ k = w1.heap.size + 1 ∨ k = g, ⟨.slice none 0 0, 0, [], bs, ?_, by simp⟩, fun k hk => ?_⟩, by omega, by rw [← hW]; go_simp, by rw [← hW]; go_simp, by rw [← hW]; go_simp, by rw [← hW]; go_simp, by rw [← hW]; go_simp, by rw [← hW]; go_simp, by rw [← hW]; go_simp, by rw [← hW]; go_simp⟩
  · refine ⟨⟨w1.heap.size, fun k => k = g, y0, ⟨⟨_, cap, x0, hc1, hc2, fun j hj => ?_⟩, ⟨k, x1, hk, hk2⟩, xf⟩, Or.inl rfl, by omega, by omega, by omega, fun k e => Or.inr (Or.inr e), fun k e => (nomatch e)⟩, y1, y2, y3, y4, yf1, yf2, yf4, Row.nil _ _, Nat.le_refl _, by simp; omega, fun A n c e => ?_, fun k e => (nomatch e), Or.inr (Or.inl rfl), fun k hk => ?_⟩
    · refine ⟨g, 0, rfl, rfl, ?_⟩
      have := hr2.at j hj
      obtain ⟨b, o, e, hc⟩ := this
      injection e with e
      injection e with e1 e2
      subst e1 e2
      exact hc
    · injection e with _ _ e; omega
    · rcases hk with rfl | rfl | rfl <;> omega
  · rcases hk with rfl | rfl | rfl
    · exact ⟨by omega, by omega⟩
    · exact ⟨by omega, by omega⟩
    · exact ⟨by omega, by omega⟩
set_option maxRecDepth 100000 in
set_option maxHeartbeats 4000000 in
theorem reading (w : World) (g0 off c k : Nat) (bs : List UInt8) (h0 : 0 < bs.length) (hbig : bs.length ≤ 1000000000) (hb : BytesAt w (some ⟨g0, off, none⟩) bs) (hk : bs.length ≤ k) (hk2 : k ≤ 9223372036854775807) :
    Calls Tryz.prog 13 #[.slice (some ⟨g0, off, none⟩) bs.length c, .int .i64 64, .int .i64 (k : Nat)] w fun e w' => ∃ m s, e = .returned (.pointer (some ⟨m, 0, none⟩)) ∧ NewRd w w' m s bs := by
  have HC := hid (copied w g0 off c bs h0 hbig hb)
  have HK := hid hk
  have HK2 := hid hk2
  have HBIG := hid hbig
  have HCE : Hid (∀ (W : World) (s m : Nat), W.heap.size = m → (W.alloc (Rdr0 s)).cell? ⟨m, 4, none⟩ = some (.int .u32 0) ∧ (W.alloc (Rdr0 s)).frozen? ⟨m, 4, none⟩ = false ∧ ((W.alloc (Rdr0 s)).setCell ⟨m, 4, none⟩ (.int .u32 1048576)).cell? ⟨m, 5, none⟩ = some (.int .u64 0) ∧ ((W.alloc (Rdr0 s)).setCell ⟨m, 4, none⟩ (.int .u32 1048576)).frozen? ⟨m, 5, none⟩ = false) := hid fun W s m hm => by
    subst hm
    unfold Rdr0
    exact ⟨by go_simp, by go_simp, by go_simp, by go_simp⟩
  clear hb hk hk2
  go_enter Tryz.func13, Tryz.ntmps13
  go_wp2_with (first
    | (go_at_call 26; refine HC.out.mono ?_; rintro e w1 ⟨g, cap, rfl, hc1, hc2, hg, hr, ho⟩; have HR := hid hr; have HO := hid ho; have HC1 := hid hc1; have HC2 := hid hc2; have HG := hid hg; clear hr ho hc1 hc2 hg)
    | (go_at_call 25; refine (newReader _ _).mono ?_; rintro e w2 ⟨rfl, rfl⟩)
    | (go_at_call 27; refine (setMaxEl _ _ (.int .u32 0) ?_ ?_).mono ?_; exact (HCE.out _ _ _ (by simp)).1; exact (HCE.out _ _ _ (by simp)).2.1; rintro e w3 ⟨rfl, rfl⟩)
    | (go_at_call 28; refine (setMaxSt _ _ (.int .u64 0) ?_ ?_).mono ?_; exact (HCE.out _ _ _ (by simp)).2.2.1; exact (HCE.out _ _ _ (by simp)).2.2.2; rintro e w3 ⟨rfl, rfl⟩))
  go_ret
  exact ⟨_, _, rfl, NewRd.make HBIG.out HK.out HK2.out HC1.out HC2.out HG.out HR.out HO.out⟩
end Go.Proofs.YtbgckolcimlofaaGreatDoor
namespace Go.Proofs.YtbgckolcimlofaaGreatDoor
open Go.RowKit YtbgckolcimlofaaGreatDoorPj

def Text0 : Obj := .cells #[.slice none 0 0] 42
theorem NewRd.js {w w1 : World} {m s : Nat} {bs : List UInt8} (h : NewRd (w.alloc Text0) w1 m s bs) : Js w1 (fun k => w.heap.size ≤ k) m s w.heap.size 0 bs [] := by
  obtain ⟨F, hr, hF⟩ := h.rd
  have hm := h.hm
  have ht : (w.alloc Text0).heap.size = w.heap.size + 1 := by simp
  have tc : (w.alloc Text0).cell? ⟨w.heap.size, 0, none⟩ = some (.slice none 0 0) := by unfold Text0; go_simp
  have tf : (w.alloc Text0).frozen? ⟨w.heap.size, 0, none⟩ = false := by unfold Text0; go_simp
  refine ⟨⟨F, fun k => k = w.heap.size, .slice none 0 0, [], hr, ⟨⟨_, (h.only.cell (by omega) (fun e => e)).trans tc, Row.nil _ _, fun k e => (nomatch e)⟩, (h.only.frozen (by omega) (fun e => e)).trans tf, rfl, fun k e => ?_⟩, h.c1, Row.nil _ _, fun k e => (nomatch e), fun k hk => ?_, fun k hk => ?_⟩, h.c0, h.c2, h.c3, h.c4, h.c5, h.f1, h.f2, ?_⟩
  · have := h.only.size
    have e : k = w.heap.size := e
    omega
  · have := hF k hk
    exact ⟨by show w.heap.size ≤ k; omega, fun e => by have e : k = w.heap.size := e; omega, this.2⟩
  · have e : k = w.heap.size := hk
    exact ⟨by show w.heap.size ≤ k; omega, by omega⟩
  · show w.heap.size ≤ m
    omega
def StreamPost (out : List UInt8) (w : World) (e : Ending) (w' : World) : Prop := e = .returned (.tuple #[.string ⟨out.toArray⟩, .bool true]) ∧ Only (fun _ => False) w w'
set_option maxRecDepth 100000 in
set_option maxHeartbeats 4000000 in
theorem streamJSON (p : P) (n : Nat) (bs : List UInt8) (hE : Enc p bs) (hf : Fit n p) (hj : JOk VD p) (he : NoEmpty p) (hn : NumOk p) (w : World) (g0 off c : Nat) (h0 : 0 < bs.length) (hbig : bs.length ≤ 1000000000) (hb : BytesAt w (some ⟨g0, off, none⟩) bs)
    (hlib : ∀ w', Only (fun _ => False) w w' → TabAt w' ∧ DecCall w') (hd : n ≤ 1000) (hl : 1000000 * cnt p ≤ 30000000000000) (v : Value) (hv : EofAt w v) :
    Calls Tryz.prog 5 #[.slice (some ⟨g0, off, none⟩) bs.length c] w (StreamPost (js p) w) := by
  have hw0 : 0 < w.heap.size := World.block_lt_of_cell? w _ hv.1
  have hTo : Only (fun _ => False) w (w.alloc Text0) := Only.alloc (Only.refl _ _) _
  have HR := hid (reading (w.alloc Text0) g0 off c bs.length bs h0 hbig (hb.only hTo) (Nat.le_refl _) (by omega))
  have HW : Hid (∀ m s w1, NewRd (w.alloc Text0) w1 m s bs → Calls Tryz.prog 14 #[.pointer (some ⟨m, 0, none⟩), .iface 49 (.pointer (some ⟨w.heap.size, 0, none⟩))] w1 (WrotePost (fun k => w.heap.size ≤ k) w.heap.size (js p) w1)) := hid fun m s w1 h1 =>
    writeToJSON p n bs hE hf hj he hn _ m s w.heap.size v w1 h1.js (fun w2 ho => hlib w2 ((hTo.trans h1.only).trans' ho fun i hi e => by have e : w.heap.size ≤ i := e; omega)) hd hl ((hv.only hTo (fun e => e)).only h1.only (fun e => e)) (fun e => by have e : w.heap.size ≤ 0 := e; omega)
  have HTO := hid hTo
  clear hE hf hj he hn hb hlib hv hTo
  go_enter Tryz.func5, Tryz.ntmps5
  go_wp2_with (first
    | (go_at_call 13; refine HR.out.mono ?_; rintro e w1 ⟨m, s, rfl, h1⟩; have H1 := hid h1; clear h1)
    | (go_at_call 14; refine (HW.out _ _ _ H1.out).mono ?_; rintro e w2 ⟨z, rfl, ⟨G, hG⟩, h2⟩; obtain ⟨vv, tc, hrow, -⟩ := hG.ex; have HROW := hid hrow; have H2 := hid h2; clear hG hrow h2)
    | (refine row_string rfl _ rfl 0 _ _ rfl HROW.out ?_))
  go_ret2
  refine ⟨rfl, (HTO.out.trans H1.out.only).trans' H2.out fun i hi e => ?_⟩
  have e : w.heap.size ≤ i := e
  omega
end Go.Proofs.YtbgckolcimlofaaGreatDoor
namespace Go.Proofs.YtbgckolcimlofaaGreatDoor
open Go.RowKit YtbgckolcimlofaaGreatDoorPj

/-- What the library's variables must hold. -/
structure Env (w : World) : Prop where
  valid : ValidAt w
  lib : ∀ w', Only (fun _ => False) w w' → TabAt w' ∧ DecCall w'
  eof : ∃ v, EofAt w v
  tabs : Lib.Utf8Tabs 1 2 w
theorem Env.only {w w' : World} (h : Env w) (ho : Only (fun _ => False) w w') : Env w' :=
  ⟨h.valid.only ho, fun w2 h2 => h.lib w2 (ho.trans h2), by obtain ⟨v, hv⟩ := h.eof; exact ⟨v, hv.only ho (fun e => e)⟩, utf8_only h.tabs ho⟩
theorem IsPk.numOk {w : World} {ok : Nat → Prop} {p : P} {cs : List Value} (h : IsPk w ok p cs) : NumOk p := by
  induction h with
  | mk k n t e ks A cap cs hlen hn0 hn ht hks hat ih => exact .mk _ hn0 hn fun i hi => ih i hi
def LawPost (w : World) (e : Ending) (w' : World) : Prop := e = .returned (.bool true) ∧ Only (fun _ => False) w w'
theorem true_pack : Enc (.mk 1 1 ⟨#[]⟩ 0 []) [195] ∧ Fit 1 (.mk 1 1 ⟨#[]⟩ 0 []) ∧ JOk VD (.mk 1 1 ⟨#[]⟩ 0 []) ∧ NoEmpty (.mk 1 1 ⟨#[]⟩ 0 []) ∧ NumOk (.mk 1 1 ⟨#[]⟩ 0 []) := by
  refine ⟨?_, ?_, ?_, ?_, ?_⟩
  · exact Enc.leaf (Or.inr (Or.inl ⟨rfl, rfl⟩)) rfl
  · exact ⟨⟨by decide, by decide, Or.inr (Or.inr rfl), Or.inr (Or.inr (Or.inr rfl)), Or.inl (by decide), Or.inr rfl, fun _ => by decide, fun h => absurd h (by decide), by decide, by decide⟩, fun j hj => absurd hj (by simp [P.kids])⟩
  · exact .mk _ (by decide) (by decide) (by decide) (fun h => absurd h (by decide)) (fun h => absurd h (by decide)) (fun h => absurd h (by decide))
  · exact .mk _ (fun i hi => absurd hi (by simp [P.kids])) (fun i hi => absurd hi (by simp [P.kids]))
  · exact .mk _ (by decide) (by decide) (fun i hi => absurd hi (by simp [P.kids]))
theorem js_true : js (.mk 1 1 ⟨#[]⟩ 0 []) = [116, 114, 117, 101] := by rw [js_eq]; rfl
/-- The reader is awake. -/
theorem awake (w : World) (he : Env w) (g : Nat) (hc : w.cell? ⟨g, 0, none⟩ = some (.int .u8 195)) : Calls Tryz.prog 5 #[.slice (some ⟨g, 0, none⟩) 1 1] w (StreamPost [116, 114, 117, 101] w) := by
  obtain ⟨h1, h2, h3, h4, h5⟩ := true_pack
  obtain ⟨v, hv⟩ := he.eof
  have hb : BytesAt w (some ⟨g, 0, none⟩) [195] := fun j hj => by
    have : j = 0 := by simp at hj; omega
    subst this
    exact ⟨g, 0, rfl, hc⟩
  have := streamJSON (.mk 1 1 ⟨#[]⟩ 0 []) 1 [195] h1 h2 h3 h4 h5 w g 0 1 (by decide) (by decide) hb he.lib (by decide) (by decide) v hv
  rw [js_true] at this
  exact this
/-- A value written by 'PutPack' goes through the reader. -/
theorem stream_is (p : P) (bs : List UInt8) (w : World) (he : Env w) (hE : Enc p bs) (hf : Fit 6 p) (hc : cnt p ≤ 2000) (hj : JOk VD p) (hne : NoEmpty p) (hn : NumOk p) (v : Value) (B : Nat) (hr : Row w B v bs) (h0 : 0 < bs.length) (hb : bs.length ≤ cnt p * 200000) :
    Calls Tryz.prog 5 #[v] w (StreamPost (js p) w) := by
  obtain ⟨u, hu⟩ := he.eof
  rcases hr.open with ⟨_, e⟩ | ⟨g, cap, rfl, _, _, _, _, hcell⟩
  · rw [e] at h0; simp at h0
  · exact streamJSON p 6 bs hE hf hj hne hn w g 0 cap h0 (by omega) (fun j hj => ⟨g, 0, rfl, by rw [Nat.zero_add]; exact hcell j hj⟩) he.lib (by decide) (by omega) u hu
theorem read_is (p : P) (w : World) (he : Env w) (hf : Fit 6 p) (hc : cnt p ≤ 2000) (hj : JOk VD p) (hn : NumOk p) :
    Calls Tryz.prog 11 #[.string ⟨(js p).toArray⟩] w (fun e w' => ∃ x0 x1 x2 x3 x4, e = .returned (.tuple #[.agg #[x0, x1, x2, x3, x4], .bool true]) ∧ IsPk w' (fun k => w.heap.size ≤ k) (rd p) [x0, x1, x2, x3, x4] ∧ Only (fun _ => False) w w') := by
  have hl := js_len p 6 hf hn
  exact readJSON p 6 hf (by decide) hj hn w ⟨(js p).toArray⟩ rfl (by show (js p).toArray.size ≤ _; simp; omega) he.tabs
theorem read_get (p : P) (w : World) (he : Env w) (hf : Fit 6 p) (hc : cnt p ≤ 2000) (hj : JOk VD p) (hn : NumOk p) :
    Calls Tryz.prog 11 #[.string ⟨(js p).toArray⟩] w (fun e w' => ∃ (k1 n1 e1 : Int) (t1 : ByteArray) (A : Option Addr) (l c : Nat), e = .returned (.tuple #[.agg #[.int .i64 k1, .int .u64 n1, .string t1, .int .i64 e1, .slice A l c], .bool true]) ∧ Hid (IsPk w' (fun k => w.heap.size ≤ k) (rd p) [.int .i64 k1, .int .u64 n1, .string t1, .int .i64 e1, .slice A l c]) ∧ Hid (Only (fun _ => False) w w')) :=
  (read_is p w he hf hc hj hn).mono fun e w' ⟨x0, x1, x2, x3, x4, h1, h2, h3⟩ => by
    have h2' := h2
    generalize rd p = q at h2 h2' ⊢
    cases h2 with
    | mk k n t e ks A cap cs => exact ⟨k, n, e, t, A, ks.length, cap, h1, h2', h3⟩
theorem IsPk.upto {w w' : World} {ok : Nat → Prop} {p : P} {cs : List Value} (h : IsPk w ok p cs) (ho : Only (fun _ => False) w w') : IsPack w' w'.heap.size p cs :=
  IsPk.keep h fun k hk hok => ⟨Nat.lt_of_lt_of_le hk ho.size, ho.block k hk (fun h => h)⟩
def At5 (w : World) (b : Nat) (v0 v1 v2 v3 v4 : Value) : Prop := w.cell? ⟨b, 0, none⟩ = some v0 ∧ w.cell? ⟨b, 1, none⟩ = some v1 ∧ w.cell? ⟨b, 2, none⟩ = some v2 ∧ w.cell? ⟨b, 3, none⟩ = some v3 ∧ w.cell? ⟨b, 4, none⟩ = some v4
theorem Five.at5 {w w' : World} {b : Nat} {v0 v1 v2 v3 v4 : Value} (h : Five w b v0 v1 v2 v3 v4) (ho : Only (fun _ => False) w w') : At5 w' b v0 v1 v2 v3 v4 :=
  have h := h.only ho (fun e => e)
  ⟨h.c0, h.c1, h.c2, h.c3, h.c4⟩
theorem Only.newb {w0 w6 w7 : World} {o : Obj} (h : Only (fun _ => False) w0 w6) (k : Only (fun k => k = w6.heap.size) (w6.alloc o) w7) : Only (fun _ => False) w0 w7 :=
  (h.alloc o).trans' k fun i hi e => by have := h.size; have e : i = w6.heap.size := e; omega
theorem FormsAt.new (w : World) (f : Int) (h0 : 0 ≤ f) (h1 : f < 18446744073709551616) : FormsAt (w.alloc (.cells #[.int .u64 f, .bool false] 37)) w.heap.size :=
  ⟨⟨f, h0, h1, by go_simp⟩, by go_simp, by go_simp⟩
set_option maxRecDepth 100000 in
set_option maxHeartbeats 16000000 in
theorem fnStream (p : P) (cs : List Value) (B : Nat) (w : World) (f : Int) (hf0 : 0 ≤ f) (hf1 : f < 18446744073709551616) (h : IsPack w B p cs) (hB : B ≤ w.heap.size) (he : Env w) :
    Calls Tryz.prog 3 #[.agg cs.toArray, .int .u64 f] w (LawPost w) := by
  have HH := hid h
  have HN := hid h.numOk
  have HE := hid he
  obtain ⟨A, cap, rfl, hlen, -⟩ := h.open
  clear h he hlen
  have HB := hid hB
  have hV : Five (w.alloc (.cells #[.int .i64 p.kind, .int .u64 p.num, .string p.text, .int .i64 p.ext, .slice A p.kids.length cap] 25)) w.heap.size (.int .i64 p.kind) (.int .u64 p.num) (.string p.text) (.int .i64 p.ext) (.slice A p.kids.length cap) := Five.new _ _ _ _ _ _ _
  have HC : Hid (∀ w1, Only (fun _ => False) (w.alloc (.cells #[.int .i64 p.kind, .int .u64 p.num, .string p.text, .int .i64 p.ext, .slice A p.kids.length cap] 25)) w1 → At5 w1 w.heap.size (.int .i64 p.kind) (.int .u64 p.num) (.string p.text) (.int .i64 p.ext) (.slice A p.kids.length cap)) := hid fun w1 ho => hV.at5 ho
  have HW : Hid (∀ w1, Only (fun _ => False) (w.alloc (.cells #[.int .i64 p.kind, .int .u64 p.num, .string p.text, .int .i64 p.ext, .slice A p.kids.length cap] 25)) w1 → Only (fun _ => False) w w1) := hid fun w1 ho => (Only.alloc (Only.refl _ _) _).trans ho
  have HP : Hid (∀ w1, Only (fun _ => False) w w1 → IsPack w1 B p [.int .i64 p.kind, .int .u64 p.num, .string p.text, .int .i64 p.ext, .slice A p.kids.length cap] ∧ B ≤ w1.heap.size) := hid fun w1 ho => ⟨HH.out.only ho HB.out (fun _ _ e => e), by have := HB.out; have := ho.size; omega⟩
  clear hV
  generalize hL : p.kids.length = L at *
  have HL := hid hL
  clear hL
  go_enter Tryz.func3, Tryz.ntmps3
  go_wp2_with (first
    | (go_at_call 12; refine (samePack _ _ (same_rd p 6 H6F.out.1 (H8.out (by first | assumption | simp_all)).1 HN.out) [.int .i64 k2, .int .u64 n2, .string t2, .int .i64 x2, .slice A2 l2 cc2] [.int .i64 k1, .int .u64 n1, .string t1, .int .i64 x1, .slice A1 l1 cc1] _ _ (HG9.out.upto (Only.alloc (Only.refl _ _) _)) ((H8.out (by first | assumption | simp_all)).2.upto ((((Only.alloc (Only.refl _ _) _).trans O8W.out).trans H9.out).alloc _)) (Nat.le_refl _)).mono ?_; rintro e w10 ⟨rfl, h10⟩; have O10 := hid ((O9.out.alloc (.cells #[.int .i64 k2, .int .u64 n2, .string t2, .int .i64 x2, .slice A2 l2 cc2] 25)).trans h10); clear h10)
    | (go_at_call 11; refine (read_get p _ (HE.out.only (HW.out _ O8.out)) H6F.out.1 H6F.out.2 (H8.out (by first | assumption | simp_all)).1 HN.out).mono ?_; rintro e w9 ⟨k2, n2, x2, t2, A2, l2, cc2, rfl, HG9, H9⟩; have O9 := hid (O8.out.trans H9.out); clear d0 d1 d2 d3 d4; obtain ⟨d0, d1, d2, d3, d4⟩ := HD.out _ ((O8W.out.trans H9.out).alloc (.cells #[.int .i64 k2, .int .u64 n2, .string t2, .int .i64 x2, .slice A2 l2 cc2] 25)))
    | (go_at_call 5; refine (stream_is p bs _ (HE.out.only (HW.out _ O7.out)) HENC.out H6F.out.1 H6F.out.2 (H8.out (by first | assumption | simp_all)).1 (H9E.out (by first | assumption | simp_all)) HN.out vput _ HROW.out HBS.out.1 HBS.out.2).mono ?_; rintro e w8 ⟨rfl, h8'⟩; have O8 := hid (O7.out.trans h8'); have O8W := hid (O7W.out.trans h8'); clear h8' d0 d1 d2 d3 d4; obtain ⟨d0, d1, d2, d3, d4⟩ := HD.out _ O8W.out)
    | (go_at_call 10; refine (putPack p 6 _ B w6.heap.size _ H6F.out.1 (H8.out (by first | assumption | simp_all)).1 (by have := H6F.out.2; omega) (HP.out _ (HW.out _ (O6.out.alloc _))).1 (FormsAt.new w6 f hf0 hf1) (by have := (HP.out _ (HW.out _ O6.out)).2; exact this) (HP.out _ (HW.out _ (O6.out.alloc _))).2).mono ?_; rintro e w7 ⟨vput, bs, rfl, hrow, henc, hb0, hb1, ho7, -⟩; have HROW := hid hrow; have HENC := hid henc; have HBS := hid (And.intro hb0 hb1); have O7 := hid (Only.newb O6.out ho7); have O7W := hid (Only.newb O6W.out ho7); clear hrow henc hb0 hb1 ho7 c0 c1 c2 c3 c4 d0 d1 d2 d3 d4; obtain ⟨d0, d1, d2, d3, d4⟩ := HD.out _ O7W.out)
    | (go_at_call 9; refine (emptyKeys p _ B _ (HP.out _ (HW.out _ O5A.out)).1 (HP.out _ (HW.out _ O5A.out)).2).mono ?_; rintro e w6 ⟨b9, rfl, h6', h9⟩; have O6 := hid (O5A.out.trans h6'); have O6W := hid h6'; have H9E := hid h9; clear h6' h9 c0 c1 c2 c3 c4; obtain ⟨c0, c1, c2, c3, c4⟩ := HC.out _ O6.out; obtain ⟨d0, d1, d2, d3, d4⟩ := HD.out _ O6W.out)
    | (go_at_call 8; refine (asJSON p 6 _ B _ (H6.out (by first | assumption | simp_all)).1 (HP.out _ (HW.out _ O4.out)).1 (HP.out _ (HW.out _ O4.out)).2 (HE.out.only (HW.out _ O4.out)).valid).mono ?_; rintro e w5 ⟨b8, k1, n1, t1, x1, A1, l1, cc1, rfl, h5, h8⟩; have O5 := hid (O4.out.trans h5); have O5A : Hid (Only (fun _ => False) _ (w5.alloc (.cells #[.int .i64 k1, .int .u64 n1, .string t1, .int .i64 x1, .slice A1 l1 cc1] 25))) := hid (O5.out.alloc _); have HD : Hid (∀ w1, Only (fun _ => False) (w5.alloc (.cells #[.int .i64 k1, .int .u64 n1, .string t1, .int .i64 x1, .slice A1 l1 cc1] 25)) w1 → At5 w1 w5.heap.size (.int .i64 k1) (.int .u64 n1) (.string t1) (.int .i64 x1) (.slice A1 l1 cc1)) := hid (fun w1 ho => (Five.new w5 _ _ _ _ _ 25).at5 ho); have H8 := hid h8; have H6F := hid (H6.out (by first | assumption | simp_all)); clear h5 h8 c0 c1 c2 c3 c4; obtain ⟨c0, c1, c2, c3, c4⟩ := HC.out _ O5A.out)
    | (go_at_call 7; refine (packs p _ B _ (HP.out _ (HW.out _ O3.out)).1 (HP.out _ (HW.out _ O3.out)).2 (by have := (H6.out (by first | assumption | simp_all)).2; omega)).mono ?_; rintro e w4 ⟨rfl, h4⟩; have O4 := hid (O3.out.trans h4); clear h4 c0 c1 c2 c3 c4; obtain ⟨c0, c1, c2, c3, c4⟩ := HC.out _ O4.out)
    | (go_at_call 6; refine (pFits p _ B _ (HP.out _ (HW.out _ O2.out)).1 (HP.out _ (HW.out _ O2.out)).2).mono ?_; rintro e w3 ⟨b6, rfl, h3, h6⟩; have O3 := hid (O2.out.trans h3); have H6 := hid h6; clear h3 h6 c0 c1 c2 c3 c4; obtain ⟨c0, c1, c2, c3, c4⟩ := HC.out _ O3.out)
    | (go_at_call 5; refine (awake _ (HE.out.only ((HW.out _ O1.out).alloc _)) w1.heap.size (by go_simp)).mono ?_; rintro e w2 ⟨rfl, h2⟩; have O2 := hid ((O1.out.alloc _).trans h2); clear h2; obtain ⟨c0, c1, c2, c3, c4⟩ := HC.out _ O2.out)
    | (go_at_call 4; refine (zzFits p _ B _ (HP.out _ (HW.out _ (Only.refl _ _))).1 (HP.out _ (HW.out _ (Only.refl _ _))).2).mono ?_; rintro e w1 ⟨b1, rfl, h1⟩; have O1 := hid h1; clear h1))
  all_goals
    go_ret
    first
      | exact ⟨rfl, HW.out _ O10.out⟩
      | exact ⟨rfl, HW.out _ O6.out⟩
      | exact ⟨rfl, HW.out _ O5A.out⟩
      | exact ⟨rfl, HW.out _ O4.out⟩
      | exact ⟨rfl, HW.out _ O3.out⟩
      | exact ⟨rfl, HW.out _ O1.out⟩
end Go.Proofs.YtbgckolcimlofaaGreatDoor
