/-
  rwString; where a written text lies ahead.
  ReadMapKeyPtr: a key of a map; where a written text lies ahead.
-/
import Derived.Test.YtbgckolcimlofaaGreatDoorProg
import Derived.Test.YtbgckolcimlofaaGreatDoorT28
import Derived.Test.YtbgckolcimlofaaGreatDoorT16
import Derived.WalkMore
import Derived.ScopeJumps
set_option linter.unusedVariables false
set_option linter.unusedSimpArgs false
namespace Go.Proofs.YtbgckolcimlofaaGreatDoor
open Go.RowKit YtbgckolcimlofaaGreatDoorPj

/-- 'rwquoted' does what it says. -/
def QuoteOk : Prop := ∀ (t : Nat) (v : Value) (bs : List UInt8) (F G : Nat → Prop) (out : List UInt8) (w : World), Txt w G t out → out.length + 6 * bs.length ≤ 35184372088832 → InRoom w F v bs → (∀ k, F k → ¬ G k) → Go.Lib.validD bs = true →
  (∀ out' w1, Wrote G t out' w w1 → DecCall w1) → Calls Tryz.prog 74 #[.iface 49 (.pointer (some ⟨t, 0, none⟩)), v] w (RqPost G t (out ++ quote bs) w)
/-- Bytes that were taken out of the reader and may be written. -/
def Taken (X : Nat → Prop) (m s t d : Nat) (all out : List UInt8) (w0 : World) (v : Value) (bs : List UInt8) (w : World) : Prop :=
  ∃ F G, InRoom w F v bs ∧ Txt w G t out ∧ (∀ k, F k → ¬ G k) ∧ (∀ k, G k → X k ∨ w0.heap.size ≤ k) ∧ Only X w0 w ∧ ∀ out' w', Wrote G t out' w w' → JsTo X m s t d all out' w0 w'
theorem JsTo.peekByte {w0 w : World} {X : Nat → Prop} {m s t d : Nat} {b : UInt8} {r out : List UInt8} (h : JsTo X m s t d (b :: r) out w0 w) :
    Calls Tryz.prog 45 #[.pointer (some ⟨s, 0, none⟩)] w fun e w' => e = .returned (.tuple #[.int .u8 (b.toNat : Int), .nilIface]) ∧ JsTo X m s t d (b :: r) out w0 w' := by
  obtain ⟨F, h1, h2, h3, h4, h5⟩ := h.reads
  exact (peekByte_w h1.went).mono fun e w' ⟨he, hw⟩ => ⟨he, h5 _ _ hw⟩
theorem JsTo.skip {w0 w : World} {X : Nat → Prop} {m s t d n : Nat} {all out : List UInt8} (h : JsTo X m s t d all out w0 w) (hn : n ≤ all.length) :
    Calls Tryz.prog 68 #[.pointer (some ⟨s, 0, none⟩), .int .i64 (n : Nat)] w fun e w' => e = .returned (.tuple #[.int .i64 (n : Nat), .nilIface]) ∧ JsTo X m s t d (all.drop n) out w0 w' := by
  obtain ⟨F, h1, h2, h3, h4, h5⟩ := h.reads
  exact (skip_w h1.went hn).mono fun e w' ⟨he, hw⟩ => ⟨he, h5 _ _ hw⟩
def Got (X : Nat → Prop) (m s t d : Nat) (r out : List UInt8) (w0 : World) (bs : List UInt8) (e : Ending) (w' : World) : Prop :=
  ∃ v, e = .returned (.tuple #[v, .nilIface]) ∧ JsTo X m s t d r out w0 w' ∧ Taken X m s t d r out w0 v bs w'
theorem JsTo.next {w0 w : World} {X : Nat → Prop} {m s t d n : Nat} {bs r out : List UInt8} (h : JsTo X m s t d (bs ++ r) out w0 w) (hn : bs.length = n) :
    Calls Tryz.prog 69 #[.pointer (some ⟨s, 0, none⟩), .int .i64 (n : Nat)] w (Got X m s t d r out w0 bs) := by
  obtain ⟨F, h1, h2, h3, h4, h5⟩ := h.takes
  refine (next_w h1.went hn).mono fun e w' hw => ?_
  obtain ⟨v, F', rfl, k⟩ := hw
  obtain ⟨j, F2, G, t1, t2, t3, t4, t5⟩ := h5 bs r w' v ⟨v, F', rfl, k⟩
  exact ⟨v, rfl, j, F2, G, t1, t2, t3, t4, j.only, t5⟩
theorem Taken.quoted {X : Nat → Prop} {m s t d : Nat} {all out : List UInt8} {w0 w : World} {v : Value} {bs : List UInt8} (h : Taken X m s t d all out w0 v bs w) (hq : QuoteOk) (hlib : LibHere X w0) (hl : out.length + 6 * bs.length ≤ 35184372088832) (hv : Go.Lib.validD bs = true) :
    Calls Tryz.prog 74 #[.iface 49 (.pointer (some ⟨t, 0, none⟩)), v] w (JPost X m s t d all (out ++ quote bs) w0) := by
  obtain ⟨F, G, h1, h2, h3, h4, h5, h6⟩ := h
  refine (hq t v bs F G out w h2 hl h1 h3 hv fun out' w1 hw => ?_).mono fun e w' hw => ?_
  · obtain ⟨G', _, _, ho⟩ := hw
    refine (hlib w1 (h5.trans' ho fun i hi e => ?_)).2
    rcases h4 i e with e | e
    · exact e
    · omega
  · obtain ⟨z, he, hw⟩ := hw
    exact ⟨z, he, h6 _ _ hw⟩
theorem Taken.room {X : Nat → Prop} {m s t d : Nat} {all out : List UInt8} {w0 w : World} {v : Value} {bs : List UInt8} (h : Taken X m s t d all out w0 v bs w) (L : Nat) (hL : bs.length = L) (h0 : 0 < L) : ∃ g o cap F, v = .slice (some ⟨g, o, none⟩) L cap ∧ L ≤ cap ∧ cap ≤ 4398046511104 ∧ Hid (InRoom w F v bs) ∧ ∀ j (hj : j < bs.length), w.cell? ⟨g, o + j, none⟩ = some (.int .u8 ((bs[j].toNat : Nat) : Int)) := by
  subst hL
  obtain ⟨F, G, h1, _⟩ := h
  obtain ⟨g, o, cap, e, _, h2, h3, h4⟩ := h1.get h0
  exact ⟨g, o, cap, F, e, h2, h3, hid h1, h4⟩
theorem Got.lead {X : Nat → Prop} {m s t d : Nat} {r out : List UInt8} {w0 w' : World} {c b : UInt8} {v : Value} {n : Nat} (hn : n < 256) (h : Taken X m s t d r out w0 v (c :: be 1 n) w') : ∃ g o cap, v = .slice (some ⟨g, o, none⟩) 2 cap ∧ 2 ≤ cap ∧ w'.cell? ⟨g, o + 1, none⟩ = some (.int .u8 (n : Int)) := by
  obtain ⟨g, o, cap, F, e, h1, h2, h3, h4⟩ := h.room 2 (by simp [be_length]) (by omega)
  refine ⟨g, o, cap, e, h1, ?_⟩
  have h5 := h4 1 (by simp [be_length])
  have e2 : (c :: be 1 n)[1]'(by simp [be_length]) = UInt8.ofNat n := rfl
  rw [e2, u8_toNat_ofNat hn] at h5
  exact h5
theorem Taken.same {X : Nat → Prop} {m s t d : Nat} {all out : List UInt8} {w0 w w' : World} {v : Value} {bs : List UInt8} (h : Taken X m s t d all out w0 v bs w) (ho : Only (fun _ => False) w w') : Taken X m s t d all out w0 v bs w' := by
  obtain ⟨F, G, h1, h2, h3, h4, h5, h6⟩ := h
  refine ⟨F, G, h1.only ho fun _ _ e => e, h2.only ho fun _ _ e => e, h3, h4, h5.trans (ho.mono fun _ _ e => e.elim), fun out' w'' hw => h6 out' w'' ?_⟩
  obtain ⟨G', k1, k2, k3⟩ := hw
  have hs := ho.size
  refine ⟨G', k1, fun k hk => ?_, (ho.mono fun _ _ e => e.elim).trans k3⟩
  rcases k2 k hk with e | e
  · exact Or.inl e
  · right; omega
set_option maxRecDepth 100000 in
set_option maxHeartbeats 2000000 in
theorem rwString_217 (hq : QuoteOk) (bs : List UInt8) (n : Nat) (hn : bs.length = n) (hn8 : n < 256) (hv : Go.Lib.validD bs = true) (X : Nat → Prop) (m s t d : Nat) (r out : List UInt8) (w0 w : World) (h : JsTo X m s t d ((217 :: be 1 n) ++ (bs ++ r)) out w0 w) (hlib : LibHere X w0) (hl : out.length ≤ 34184372088832) (hsz : bs.length ≤ 131072) :
    Calls Tryz.prog 48 #[.iface 49 (.pointer (some ⟨t, 0, none⟩)), .pointer (some ⟨m, 0, none⟩)] w (JPost X m s t d r (out ++ quote bs) w0) := by
  have J0 := hid h
  have c0 := h.js.c0
  have HV := hid hv
  have HL := hid hlib
  have HN := hid hn
  have hn9 : n ≤ 131072 := by omega
  clear h hlib hv hn hsz
  go_enter Tryz.func48, Tryz.ntmps48
  go_wp2_with fail
  go_step3
  go_wp2_with (first
    | (go_at_call 45; refine (J0.out.peekByte (b := 217)).mono ?_; rintro e w1 ⟨rfl, h1⟩; have k0 := h1.js.c0; have J1 := hid h1; clear h1)
    | (go_at_call 66; refine (isfixstr_f 217 (by decide) _ (by decide)).mono ?_; rintro e w' ⟨rfl, rfl⟩)
    | (go_at_call 69; go_must (refine (JsTo.next (n := 2) (bs := 217 :: be 1 n) (r := bs ++ r) J1.out (by simp [be_length])).mono ?_); rintro e w2 ⟨v, rfl, h2, h3⟩; obtain ⟨g, o, cap, rfl, q1, q2⟩ := Got.lead (b := 0) hn8 h3; have l0 := h2.js.c0; have l5 := h2.js.c5; have J3 := hid h2; clear h2 h3))
  go_step3
  go_wp2_with (first
    | (go_at_call 73; refine (maxStr m _ l5).mono ?_; rintro e w' ⟨rfl, rfl⟩)
    | (go_at_call 69; go_must (refine (JsTo.next (n := n) (bs := bs) (r := r) J3.out HN.out).mono ?_); rintro e w4 ⟨v, rfl, h4, h5⟩; have J4 := hid h5; clear h4 h5)
    | (go_at_call 74; go_must (refine (J4.out.quoted hq HL.out (by have := HN.out; omega) HV.out).mono ?_); rintro e w5 ⟨z, rfl, h5⟩; have J5 := hid h5; clear h5))
  go_ret2
  exact ⟨_, rfl, J5.out⟩
set_option maxRecDepth 100000 in
set_option maxHeartbeats 2000000 in
theorem rwString_218 (hq : QuoteOk) (bs : List UInt8) (n : Nat) (hn : bs.length = n) (hn8 : n < 65536) (hv : Go.Lib.validD bs = true) (X : Nat → Prop) (m s t d : Nat) (r out : List UInt8) (w0 w : World) (h : JsTo X m s t d ((218 :: be 2 n) ++ (bs ++ r)) out w0 w) (hlib : LibHere X w0) (hl : out.length ≤ 34184372088832) (hsz : bs.length ≤ 131072) :
    Calls Tryz.prog 48 #[.iface 49 (.pointer (some ⟨t, 0, none⟩)), .pointer (some ⟨m, 0, none⟩)] w (JPost X m s t d r (out ++ quote bs) w0) := by
  have J0 := hid h
  have c0 := h.js.c0
  have HV := hid hv
  have HL := hid hlib
  have HN := hid hn
  have hn9 : n ≤ 131072 := by omega
  clear h hlib hv hn hsz
  have hz : IntKind.u16.wrap (n : Int) = (n : Int) := by simp [IntKind.wrap, IntKind.bits, IntKind.signed]; omega
  have HZ := hid hz
  clear hz
  go_enter Tryz.func48, Tryz.ntmps48
  go_wp2_with fail
  go_step3
  go_wp2_with (first
    | (go_at_call 45; refine (J0.out.peekByte (b := 218)).mono ?_; rintro e w1 ⟨rfl, h1⟩; have k0 := h1.js.c0; have J1 := hid h1; clear h1)
    | (go_at_call 66; refine (isfixstr_f 218 (by decide) _ (by decide)).mono ?_; rintro e w' ⟨rfl, rfl⟩)
    | (go_at_call 69; go_must (refine (JsTo.next (n := 3) (bs := 218 :: be 2 n) (r := bs ++ r) J1.out (by simp [be_length])).mono ?_); rintro e w2 ⟨v, rfl, h2, h3⟩; obtain ⟨g, o, cap, F2, rfl, q1, q2, q3, q4⟩ := h3.room 3 (by simp [be_length]) (by omega); have JT := hid q3.out.tail; have q9 : ¬ cap = 1 := (by omega); have J2 := hid h2; clear h2 h3 q3 q4))
  go_region_held3 (fun _ => True) (trivial)
    (first
      | (go_at_call 70; refine (beU16_be _ F2 _ n (JT.out.only (Only.drew (Only.refl (fun _ => False) _)) (fun _ _ h => h))).mono ?_; rintro e w3 ⟨rfl, q1⟩; rw [HZ.out]; have h3 : JsTo X m s t d (bs ++ r) out w0 w3 := (J2.out.same (Only.drew (Only.refl (fun _ => False) _))).same q1; have l0 := h3.js.c0; have l5 := h3.js.c5; have J3 := hid h3; clear h3 q1))
  go_wp2
  go_step3
  go_wp2_with (first
    | (go_at_call 73; refine (maxStr m _ l5).mono ?_; rintro e w' ⟨rfl, rfl⟩)
    | (go_at_call 69; go_must (refine (JsTo.next (n := n) (bs := bs) (r := r) J3.out HN.out).mono ?_); rintro e w4 ⟨v, rfl, h4, h5⟩; have J4 := hid h5; clear h4 h5)
    | (go_at_call 74; go_must (refine (J4.out.quoted hq HL.out (by have := HN.out; omega) HV.out).mono ?_); rintro e w5 ⟨z, rfl, h5⟩; have J5 := hid h5; clear h5))
  go_ret2
  exact ⟨_, rfl, J5.out⟩
set_option maxRecDepth 100000 in
set_option maxHeartbeats 2000000 in
theorem rwString_219 (hq : QuoteOk) (bs : List UInt8) (n : Nat) (hn : bs.length = n) (hn8 : n < 4294967296) (hv : Go.Lib.validD bs = true) (X : Nat → Prop) (m s t d : Nat) (r out : List UInt8) (w0 w : World) (h : JsTo X m s t d ((219 :: be 4 n) ++ (bs ++ r)) out w0 w) (hlib : LibHere X w0) (hl : out.length ≤ 34184372088832) (hsz : bs.length ≤ 131072) :
    Calls Tryz.prog 48 #[.iface 49 (.pointer (some ⟨t, 0, none⟩)), .pointer (some ⟨m, 0, none⟩)] w (JPost X m s t d r (out ++ quote bs) w0) := by
  have J0 := hid h
  have c0 := h.js.c0
  have HV := hid hv
  have HL := hid hlib
  have HN := hid hn
  have hn9 : n ≤ 131072 := by omega
  clear h hlib hv hn hsz
  have hz : IntKind.u32.wrap (n : Int) = (n : Int) := by simp [IntKind.wrap, IntKind.bits, IntKind.signed]; omega
  have HZ := hid hz
  clear hz
  go_enter Tryz.func48, Tryz.ntmps48
  go_wp2_with fail
  go_step3
  go_wp2_with (first
    | (go_at_call 45; refine (J0.out.peekByte (b := 219)).mono ?_; rintro e w1 ⟨rfl, h1⟩; have k0 := h1.js.c0; have J1 := hid h1; clear h1)
    | (go_at_call 66; refine (isfixstr_f 219 (by decide) _ (by decide)).mono ?_; rintro e w' ⟨rfl, rfl⟩)
    | (go_at_call 69; go_must (refine (JsTo.next (n := 5) (bs := 219 :: be 4 n) (r := bs ++ r) J1.out (by simp [be_length])).mono ?_); rintro e w2 ⟨v, rfl, h2, h3⟩; obtain ⟨g, o, cap, F2, rfl, q1, q2, q3, q4⟩ := h3.room 5 (by simp [be_length]) (by omega); have JT := hid q3.out.tail; have q9 : ¬ cap = 1 := (by omega); have J2 := hid h2; clear h2 h3 q3 q4))
  go_region_held3 (fun _ => True) (trivial)
    (first
      | (go_at_call 71; refine (beU32_be _ F2 _ n (JT.out.only (Only.drew (Only.refl (fun _ => False) _)) (fun _ _ h => h))).mono ?_; rintro e w3 ⟨rfl, q1⟩; rw [HZ.out]; have h3 : JsTo X m s t d (bs ++ r) out w0 w3 := (J2.out.same (Only.drew (Only.refl (fun _ => False) _))).same q1; have l0 := h3.js.c0; have l5 := h3.js.c5; have J3 := hid h3; clear h3 q1))
  go_wp2
  go_step3
  go_wp2_with (first
    | (go_at_call 73; refine (maxStr m _ l5).mono ?_; rintro e w' ⟨rfl, rfl⟩)
    | (go_at_call 69; go_must (refine (JsTo.next (n := n) (bs := bs) (r := r) J3.out HN.out).mono ?_); rintro e w4 ⟨v, rfl, h4, h5⟩; have J4 := hid h5; clear h4 h5)
    | (go_at_call 74; go_must (refine (J4.out.quoted hq HL.out (by have := HN.out; omega) HV.out).mono ?_); rintro e w5 ⟨z, rfl, h5⟩; have J5 := hid h5; clear h5))
  go_ret2
  exact ⟨_, rfl, J5.out⟩
def AtAct (A : Act) (p : World → Prop) : Act → World → Prop := fun a' w' => a' = A ∧ p w'
set_option maxRecDepth 100000 in
set_option maxHeartbeats 2000000 in
theorem rwString_fix (hq : QuoteOk) (bs : List UInt8) (n : Nat) (b : UInt8) (hb : b.toNat = 160 + n) (hn : bs.length = n) (hn8 : n < 32) (hv : Go.Lib.validD bs = true) (X : Nat → Prop) (m s t d : Nat) (r out : List UInt8) (w0 w : World) (h : JsTo X m s t d (b :: (bs ++ r)) out w0 w) (hlib : LibHere X w0) (hl : out.length ≤ 34184372088832) :
    Calls Tryz.prog 48 #[.iface 49 (.pointer (some ⟨t, 0, none⟩)), .pointer (some ⟨m, 0, none⟩)] w (JPost X m s t d r (out ++ quote bs) w0) := by
  have J0 := hid h
  have c0 := h.js.c0
  have HV := hid hv
  have HL := hid hlib
  have HN := hid hn
  have hn9 : n ≤ 131072 := by omega
  have HB := hid hb
  have hbi : (b.toNat : Int) = ((160 + n : Nat) : Int) := by omega
  have HBI := hid hbi
  clear h hlib hv hn hb hbi
  go_enter Tryz.func48, Tryz.ntmps48
  go_wp2_with fail
  apply wp_scope_jumps 0 (AtAct _ (JsTo X m s t d (bs ++ r) out w0)) (fun _ _ => 0) rfl
  case first =>
    go_wp2_with (first
      | (go_at_call 45; refine (J0.out.peekByte (b := b)).mono ?_; rintro e w1 ⟨rfl, h1⟩; rw [HBI.out]; have k0 := h1.js.c0; have J1 := hid h1; clear h1)
      | (go_at_call 66; refine (isfixstr_t (160 + n) _ (by omega)).mono ?_; rintro e w' ⟨rfl, rfl⟩)
      | (go_at_call 67; go_must (refine (rfixstr n hn8 _).mono ?_); rintro e w' ⟨rfl, rfl⟩)
      | (go_at_call 68; go_must (refine (JsTo.skip (n := 1) J1.out (by simp)).mono ?_); rintro e w2 ⟨rfl, h2⟩; have J2 := hid h2; clear h2))
    go_step3
    exact ⟨rfl, rfl, J2.out⟩
  case pass =>
    rintro a' w3 ⟨rfl, h3⟩
    have l0 := h3.js.c0
    have l5 := h3.js.c5
    have J3 := hid h3
    clear h3
    go_wp2_with (first
      | (go_at_call 73; refine (maxStr m _ l5).mono ?_; rintro e w' ⟨rfl, rfl⟩)
      | (go_at_call 69; go_must (refine (JsTo.next (n := n) (bs := bs) (r := r) J3.out HN.out).mono ?_); rintro e w4 ⟨v, rfl, h4, h5⟩; have J4 := hid h5; clear h4 h5)
      | (go_at_call 74; go_must (refine (J4.out.quoted hq HL.out (by have := HN.out; omega) HV.out).mono ?_); rintro e w5 ⟨z, rfl, h5⟩; have J5 := hid h5; clear h5))
    try simp only [Exit.jump]
    go_ret2
    exact ⟨_, rfl, J5.out⟩
end Go.Proofs.YtbgckolcimlofaaGreatDoor
namespace Go.Proofs.YtbgckolcimlofaaGreatDoor
open Go.RowKit YtbgckolcimlofaaGreatDoorPj

set_option maxRecDepth 100000 in
set_option maxHeartbeats 2000000 in
theorem readKey_217 (bs : List UInt8) (n : Nat) (hn : bs.length = n) (hn8 : n < 256) (X : Nat → Prop) (m s t d : Nat) (r out : List UInt8) (w0 w : World) (h : JsTo X m s t d ((217 :: be 1 n) ++ (bs ++ r)) out w0 w) (hn0 : 0 < n) (hsz : bs.length ≤ 131072) :
    Calls Tryz.prog 84 #[.pointer (some ⟨m, 0, none⟩)] w (Got X m s t d r out w0 bs) := by
  have J0 := hid h
  have c0 := h.js.c0
  have HN := hid hn
  have hn9 : n ≤ 131072 := by omega
  have hz0 : ((n : Int) == 0) = false := by simp; omega
  clear h hn hsz
  go_enter Tryz.func84, Tryz.ntmps84
  go_wp2_with fail
  go_step3
  go_wp2_with (first
    | (go_at_call 45; refine (J0.out.peekByte (b := 217)).mono ?_; rintro e w1 ⟨rfl, h1⟩; have k0 := h1.js.c0; have J1 := hid h1; clear h1)
    | (go_at_call 66; refine (isfixstr_f 217 (by decide) _ (by decide)).mono ?_; rintro e w' ⟨rfl, rfl⟩)
    | (go_at_call 69; go_must (refine (JsTo.next (n := 2) (bs := 217 :: be 1 n) (r := bs ++ r) J1.out (by simp [be_length])).mono ?_); rintro e w2 ⟨v, rfl, h2, h3⟩; obtain ⟨g, o, cap, rfl, q1, q2⟩ := Got.lead (b := 0) hn8 h3; have l0 := h2.js.c0; have l5 := h2.js.c5; have J3 := hid h2; clear h2 h3))
  go_step3
  go_wp2_with (first
    | (go_at_call 73; refine (maxStr m _ l5).mono ?_; rintro e w' ⟨rfl, rfl⟩)
    | (go_at_call 69; go_must (refine (JsTo.next (n := n) (bs := bs) (r := r) J3.out HN.out).mono ?_); rintro e w4 ⟨v, rfl, h4, h5⟩; have J3' := hid h4; have J4 := hid h5; clear h4 h5))
  go_ret2
  exact ⟨_, rfl, J3'.out, J4.out⟩
set_option maxRecDepth 100000 in
set_option maxHeartbeats 2000000 in
theorem readKey_218 (bs : List UInt8) (n : Nat) (hn : bs.length = n) (hn8 : n < 65536) (X : Nat → Prop) (m s t d : Nat) (r out : List UInt8) (w0 w : World) (h : JsTo X m s t d ((218 :: be 2 n) ++ (bs ++ r)) out w0 w) (hn0 : 0 < n) (hsz : bs.length ≤ 131072) :
    Calls Tryz.prog 84 #[.pointer (some ⟨m, 0, none⟩)] w (Got X m s t d r out w0 bs) := by
  have J0 := hid h
  have c0 := h.js.c0
  have HN := hid hn
  have hn9 : n ≤ 131072 := by omega
  have hz0 : ((n : Int) == 0) = false := by simp; omega
  clear h hn hsz
  have hz : IntKind.u16.wrap (n : Int) = (n : Int) := by simp [IntKind.wrap, IntKind.bits, IntKind.signed]; omega
  have HZ := hid hz
  clear hz
  go_enter Tryz.func84, Tryz.ntmps84
  go_wp2_with fail
  go_step3
  go_wp2_with (first
    | (go_at_call 45; refine (J0.out.peekByte (b := 218)).mono ?_; rintro e w1 ⟨rfl, h1⟩; have k0 := h1.js.c0; have J1 := hid h1; clear h1)
    | (go_at_call 66; refine (isfixstr_f 218 (by decide) _ (by decide)).mono ?_; rintro e w' ⟨rfl, rfl⟩)
    | (go_at_call 69; go_must (refine (JsTo.next (n := 3) (bs := 218 :: be 2 n) (r := bs ++ r) J1.out (by simp [be_length])).mono ?_); rintro e w2 ⟨v, rfl, h2, h3⟩; obtain ⟨g, o, cap, F2, rfl, q1, q2, q3, q4⟩ := h3.room 3 (by simp [be_length]) (by omega); have JT := hid q3.out.tail; have q9 : ¬ cap = 1 := (by omega); have J2 := hid h2; clear h2 h3 q3 q4))
  go_region_held3 (fun _ => True) (trivial)
    (first
      | (go_at_call 70; refine (beU16_be _ F2 _ n (JT.out.only (Only.drew (Only.refl (fun _ => False) _)) (fun _ _ h => h))).mono ?_; rintro e w3 ⟨rfl, q1⟩; rw [HZ.out]; have h3 : JsTo X m s t d (bs ++ r) out w0 w3 := (J2.out.same (Only.drew (Only.refl (fun _ => False) _))).same q1; have l0 := h3.js.c0; have l5 := h3.js.c5; have J3 := hid h3; clear h3 q1))
  go_wp2
  go_step3
  go_wp2_with (first
    | (go_at_call 73; refine (maxStr m _ l5).mono ?_; rintro e w' ⟨rfl, rfl⟩)
    | (go_at_call 69; go_must (refine (JsTo.next (n := n) (bs := bs) (r := r) J3.out HN.out).mono ?_); rintro e w4 ⟨v, rfl, h4, h5⟩; have J3' := hid h4; have J4 := hid h5; clear h4 h5))
  go_ret2
  exact ⟨_, rfl, J3'.out, J4.out⟩
set_option maxRecDepth 100000 in
set_option maxHeartbeats 2000000 in
theorem readKey_219 (bs : List UInt8) (n : Nat) (hn : bs.length = n) (hn8 : n < 4294967296) (X : Nat → Prop) (m s t d : Nat) (r out : List UInt8) (w0 w : World) (h : JsTo X m s t d ((219 :: be 4 n) ++ (bs ++ r)) out w0 w) (hn0 : 0 < n) (hsz : bs.length ≤ 131072) :
    Calls Tryz.prog 84 #[.pointer (some ⟨m, 0, none⟩)] w (Got X m s t d r out w0 bs) := by
  have J0 := hid h
  have c0 := h.js.c0
  have HN := hid hn
  have hn9 : n ≤ 131072 := by omega
  have hz0 : ((n : Int) == 0) = false := by simp; omega
  clear h hn hsz
  have hz : IntKind.u32.wrap (n : Int) = (n : Int) := by simp [IntKind.wrap, IntKind.bits, IntKind.signed]; omega
  have HZ := hid hz
  clear hz
  go_enter Tryz.func84, Tryz.ntmps84
  go_wp2_with fail
  go_step3
  go_wp2_with (first
    | (go_at_call 45; refine (J0.out.peekByte (b := 219)).mono ?_; rintro e w1 ⟨rfl, h1⟩; have k0 := h1.js.c0; have J1 := hid h1; clear h1)
    | (go_at_call 66; refine (isfixstr_f 219 (by decide) _ (by decide)).mono ?_; rintro e w' ⟨rfl, rfl⟩)
    | (go_at_call 69; go_must (refine (JsTo.next (n := 5) (bs := 219 :: be 4 n) (r := bs ++ r) J1.out (by simp [be_length])).mono ?_); rintro e w2 ⟨v, rfl, h2, h3⟩; obtain ⟨g, o, cap, F2, rfl, q1, q2, q3, q4⟩ := h3.room 5 (by simp [be_length]) (by omega); have JT := hid q3.out.tail; have q9 : ¬ cap = 1 := (by omega); have J2 := hid h2; clear h2 h3 q3 q4))
  go_region_held3 (fun _ => True) (trivial)
    (first
      | (go_at_call 71; refine (beU32_be _ F2 _ n (JT.out.only (Only.drew (Only.refl (fun _ => False) _)) (fun _ _ h => h))).mono ?_; rintro e w3 ⟨rfl, q1⟩; rw [HZ.out]; have h3 : JsTo X m s t d (bs ++ r) out w0 w3 := (J2.out.same (Only.drew (Only.refl (fun _ => False) _))).same q1; have l0 := h3.js.c0; have l5 := h3.js.c5; have J3 := hid h3; clear h3 q1))
  go_wp2
  go_step3
  go_wp2_with (first
    | (go_at_call 73; refine (maxStr m _ l5).mono ?_; rintro e w' ⟨rfl, rfl⟩)
    | (go_at_call 69; go_must (refine (JsTo.next (n := n) (bs := bs) (r := r) J3.out HN.out).mono ?_); rintro e w4 ⟨v, rfl, h4, h5⟩; have J3' := hid h4; have J4 := hid h5; clear h4 h5))
  go_ret2
  exact ⟨_, rfl, J3'.out, J4.out⟩
set_option maxRecDepth 100000 in
set_option maxHeartbeats 2000000 in
theorem readKey_fix (bs : List UInt8) (n : Nat) (b : UInt8) (hb : b.toNat = 160 + n) (hn : bs.length = n) (hn8 : n < 32) (X : Nat → Prop) (m s t d : Nat) (r out : List UInt8) (w0 w : World) (h : JsTo X m s t d (b :: (bs ++ r)) out w0 w) (hn0 : 0 < n) :
    Calls Tryz.prog 84 #[.pointer (some ⟨m, 0, none⟩)] w (Got X m s t d r out w0 bs) := by
  have J0 := hid h
  have c0 := h.js.c0
  have HN := hid hn
  have hn9 : n ≤ 131072 := by omega
  have HB := hid hb
  have hbi : (b.toNat : Int) = ((160 + n : Nat) : Int) := by omega
  have HBI := hid hbi
  have hz0 : ((n : Int) == 0) = false := by simp; omega
  clear h hn hb hbi
  go_enter Tryz.func84, Tryz.ntmps84
  go_wp2_with fail
  apply wp_scope_jumps 0 (AtAct _ (JsTo X m s t d (bs ++ r) out w0)) (fun _ _ => 0) rfl
  case first =>
    go_wp2_with (first
      | (go_at_call 45; refine (J0.out.peekByte (b := b)).mono ?_; rintro e w1 ⟨rfl, h1⟩; rw [HBI.out]; have k0 := h1.js.c0; have J1 := hid h1; clear h1)
      | (go_at_call 66; refine (isfixstr_t (160 + n) _ (by omega)).mono ?_; rintro e w' ⟨rfl, rfl⟩)
      | (go_at_call 67; go_must (refine (rfixstr n hn8 _).mono ?_); rintro e w' ⟨rfl, rfl⟩)
      | (go_at_call 68; go_must (refine (JsTo.skip (n := 1) J1.out (by simp)).mono ?_); rintro e w2 ⟨rfl, h2⟩; have J2 := hid h2; clear h2))
    go_step3
    exact ⟨rfl, rfl, J2.out⟩
  case pass =>
    rintro a' w3 ⟨rfl, h3⟩
    have l0 := h3.js.c0
    have l5 := h3.js.c5
    have J3 := hid h3
    clear h3
    go_wp2_with (first
      | (go_at_call 73; refine (maxStr m _ l5).mono ?_; rintro e w' ⟨rfl, rfl⟩)
      | (go_at_call 69; go_must (refine (JsTo.next (n := n) (bs := bs) (r := r) J3.out HN.out).mono ?_); rintro e w4 ⟨v, rfl, h4, h5⟩; have J3' := hid h4; have J4 := hid h5; clear h4 h5))
    try simp only [Exit.jump]
    go_ret2
    exact ⟨_, rfl, J3'.out, J4.out⟩
end Go.Proofs.YtbgckolcimlofaaGreatDoor
