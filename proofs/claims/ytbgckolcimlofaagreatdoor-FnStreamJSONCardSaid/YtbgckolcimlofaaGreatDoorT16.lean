/-
  What a read of a value cell gives; under the value predicate.
  Plain facts on a written value (its bytes); for values that fit.
  ReadMapHeader and the limits of the reader; where a written header lies ahead.
-/
import Derived.Test.YtbgckolcimlofaaGreatDoorT01
import Derived.Test.YtbgckolcimlofaaGreatDoorT15
import Derived.Test.YtbgckolcimlofaaGreatDoorProg
import Derived.Test.YtbgckolcimlofaaGreatDoorT12
set_option linter.unusedVariables false
set_option linter.unusedSimpArgs false
namespace YtbgckolcimlofaaGreatDoorPj
mutual
/-- A value as it is in JSON. -/
def asj : P → P
  | .mk k n t e ks => if k = 7 then .mk 6 0 ⟨(b64 (tx t)).toArray⟩ 0 [] else if k = 8 ∨ k = 9 then .mk k 0 ⟨#[]⟩ 0 (asjAll ks) else .mk k n t e ks
def asjAll : List P → List P
  | [] => []
  | p :: r => asj p :: asjAll r
end
theorem asjAll_eq (l : List P) : asjAll l = l.map asj := by
  induction l with
  | nil => rfl
  | cons p r ih => rw [asjAll, ih]; rfl
theorem asj_7 (p : P) (h : p.kind = 7) : asj p = .mk 6 0 ⟨(b64 (tx p.text)).toArray⟩ 0 [] := by
  obtain ⟨k, n, t, e, ks⟩ := p
  have h : k = 7 := h
  subst h
  rfl
theorem asj_89 (p : P) (h : p.kind = 8 ∨ p.kind = 9) : asj p = .mk p.kind 0 ⟨#[]⟩ 0 (p.kids.map asj) := by
  obtain ⟨k, n, t, e, ks⟩ := p
  have h : k = 8 ∨ k = 9 := h
  rw [asj, if_neg (by omega), if_pos h, asjAll_eq]
  rfl
theorem asj_o (p : P) (h7 : p.kind ≠ 7) (h8 : p.kind ≠ 8) (h9 : p.kind ≠ 9) : asj p = p := by
  obtain ⟨k, n, t, e, ks⟩ := p
  have h7 : k ≠ 7 := h7
  have h8 : k ≠ 8 := h8
  have h9 : k ≠ 9 := h9
  rw [asj, if_neg h7, if_neg (by omega)]
/-- What is asked of a value that is to be JSON. -/
inductive JOk (V : List UInt8 → Prop) : P → Prop where
  | mk (p : P) (h4 : p.kind ≠ 4) (h5 : p.kind ≠ 5) (h10 : p.kind ≠ 10) (h6 : p.kind = 6 → V (tx p.text)) (hk : p.kind = 8 ∨ p.kind = 9 → ∀ (i : Nat) (h : i < p.kids.length), JOk V p.kids[i])
      (h9 : p.kind = 9 → ∀ (i : Nat) (h : i < p.kids.length), i % 2 = 0 → p.kids[i].kind = 6) : JOk V p
end YtbgckolcimlofaaGreatDoorPj
namespace Go.Proofs.YtbgckolcimlofaaGreatDoor
open Go.RowKit YtbgckolcimlofaaGreatDoorPj

def fsText : List (Nat × Nat) := [(217, 1), (218, 2), (219, 4)]
def fsBin : List (Nat × Nat) := [(196, 1), (197, 2), (198, 4)]
def fsArr : List (Nat × Nat) := [(220, 2), (221, 4)]
def fsMap : List (Nat × Nat) := [(222, 2), (223, 4)]
/-- What stands ahead of a value's kids. -/
def Hd (p : P) (bs : List UInt8) : Prop :=
  (p.kind = 0 ∧ bs = [192]) ∨ (p.kind = 1 ∧ bs = [UInt8.ofNat (194 + p.num.toNat)]) ∨
  ((p.kind = 2 ∧ 9223372036854775808 ≤ p.num) ∧ INeg p.num.toNat bs) ∨ ((p.kind = 2 ∧ p.num < 9223372036854775808 ∨ p.kind = 3) ∧ IPos p.num.toNat bs) ∨
  (p.kind = 6 ∧ ∃ h, Head 160 32 p.text.size fsText h ∧ bs = h ++ tx p.text) ∨ (p.kind = 7 ∧ ∃ h, Head (-1) 0 p.text.size fsBin h ∧ bs = h ++ tx p.text) ∨
  (p.kind = 8 ∧ Head 144 16 p.kids.length fsArr bs) ∨ (p.kind = 9 ∧ Head 128 16 (p.kids.length / 2) fsMap bs)
/-- How a value is written. -/
inductive Enc : P → List UInt8 → Prop where
  | mk (p : P) (h : List UInt8) (bss : List (List UInt8)) (hh : Hd p h) (hl : bss.length = p.kids.length) (hk : ∀ (i : Nat) (hi : i < p.kids.length) (hi' : i < bss.length), Enc p.kids[i] bss[i]) : Enc p (h ++ bss.flatten)
theorem INeg.len {u : Nat} {bs : List UInt8} (h : INeg u bs) : 0 < bs.length ∧ bs.length ≤ 9 := by
  rcases h with ⟨_, rfl⟩ | ⟨i, s, hm, _, rfl⟩
  · simp
  · simp at hm
    simp [be_length]
    omega
theorem IPos.len {u : Nat} {bs : List UInt8} (h : IPos u bs) : 0 < bs.length ∧ bs.length ≤ 9 := by
  rcases h with ⟨_, rfl⟩ | ⟨f, hm, _, rfl⟩ | ⟨i, s, hm, _, rfl⟩
  · simp
  · simp at hm
    rcases hm with rfl | rfl | rfl | rfl <;> simp [be_length]
  · simp at hm
    simp [be_length]
    omega
theorem Head.len {fixed : Int} {under n : Nat} {fs : List (Nat × Nat)} {bs : List UInt8} (h : Head fixed under n fs bs) (hf : ∀ f ∈ fs, f.2 ≤ 8) : 0 < bs.length ∧ bs.length ≤ 9 := by
  rcases h with ⟨_, _, rfl⟩ | ⟨f, hm, _, rfl⟩
  · simp
  · have := hf f hm
    simp [be_length]
    omega
theorem fs_ok : (∀ f ∈ fsText, 0 < f.2 ∧ f.2 ≤ 8 ∧ f.1 < 256) ∧ (∀ f ∈ fsBin, 0 < f.2 ∧ f.2 ≤ 8 ∧ f.1 < 256) ∧ (∀ f ∈ fsArr, 0 < f.2 ∧ f.2 ≤ 8 ∧ f.1 < 256) ∧ (∀ f ∈ fsMap, 0 < f.2 ∧ f.2 ≤ 8 ∧ f.1 < 256) := by decide
theorem Hd.len {p : P} {bs : List UInt8} (h : Hd p bs) (ht : p.text.size ≤ 131072) : 0 < bs.length ∧ bs.length ≤ 150000 := by
  rcases h with ⟨_, rfl⟩ | ⟨_, rfl⟩ | ⟨_, h⟩ | ⟨_, h⟩ | ⟨_, h', h, rfl⟩ | ⟨_, h', h, rfl⟩ | ⟨_, h⟩ | ⟨_, h⟩
  · simp
  · simp
  · have := h.len; omega
  · have := h.len; omega
  · have := h.len fun f hf => (fs_ok.1 f hf).2.1
    rw [List.length_append, tx_length]; omega
  · have := h.len fun f hf => (fs_ok.2.1 f hf).2.1
    rw [List.length_append, tx_length]; omega
  · have := h.len fun f hf => (fs_ok.2.2.1 f hf).2.1
    omega
  · have := h.len fun f hf => (fs_ok.2.2.2 f hf).2.1
    omega
/-- Some of the kids, written one behind the other. -/
def EncK (ks : List P) (j : Nat) (bss : List (List UInt8)) : Prop := bss.length = j ∧ ∀ (i : Nat) (hi : i < ks.length) (hi' : i < bss.length), Enc ks[i] bss[i]
theorem EncK.nil (ks : List P) : EncK ks 0 [] := ⟨rfl, fun i _ h => absurd h (by simp)⟩
theorem EncK.snoc {ks : List P} {j : Nat} {bss : List (List UInt8)} (h : EncK ks j bss) (hj : j < ks.length) {bs : List UInt8} (hb : Enc ks[j] bs) : EncK ks (j + 1) (bss ++ [bs]) := by
  obtain ⟨rfl, h⟩ := h
  refine ⟨by simp, fun i hi hi' => ?_⟩
  by_cases e : i < bss.length
  · rw [List.getElem_append_left e]
    exact h i hi e
  · have : i = bss.length := by simp at hi'; omega
    subst this
    simpa using hb
theorem flatten_snoc (bss : List (List UInt8)) (bs : List UInt8) : (bss ++ [bs]).flatten = bss.flatten ++ bs := by simp

def PutPost (f : Nat) (p : P) (w : World) (e : Ending) (w' : World) : Prop :=
  ∃ v bs, e = .returned v ∧ Row w' w.heap.size v bs ∧ Enc p bs ∧ 0 < bs.length ∧ bs.length ≤ cnt p * 200000 ∧ Only (fun k => k = f) w w' ∧ FormsAt w' f
def PutIH (B f : Nat) (ks : List P) : Prop :=
  ∀ (j : Nat) (hj : j < ks.length) (cs : List Value) (w : World), IsPack w B ks[j] cs → FormsAt w f → B ≤ f → B ≤ w.heap.size → Calls Tryz.prog 10 #[.agg cs.toArray, .pointer (some ⟨f, 0, none⟩)] w (PutPost f ks[j] w)
theorem Enc.leaf {p : P} {h : List UInt8} (hh : Hd p h) (hk : p.kids.length = 0) : Enc p h := by
  have := Enc.mk p h [] hh (by simp [hk]) (fun i hi _ => absurd hi (by omega))
  simpa using this
theorem leaf_post {f : Nat} {p : P} {w w' : World} {v : Value} {bs : List UInt8} (hp : PNode p) (hk : p.kids.length = 0) (hr : Row w' w.heap.size v bs) (hh : Hd p bs) (ho : Only (fun k => k = f) w w') (hf : FormsAt w' f) : PutPost f p w (.returned v) w' := by
  have := hh.len hp.short
  have hc := cnt_eq p
  exact ⟨v, bs, rfl, hr, Enc.leaf hh hk, this.1, by omega, ho, hf⟩

theorem putHead_any (f fixed under n : Nat) (A : Option Addr) (cap : Nat) (fs : List (Nat × Nat)) (w : World) (hff : FormsAt w f) (hfl : fixed ≤ 255) (hor : ∀ m : Nat, m < under → bits .or .i64 fixed m = ((fixed + m : Nat) : Int)) (hn : n ≤ 1000000) (hu : under ≤ 1000) (hl : fs.length ≤ 10) (hf : FsAt w A fs)
    (hs : ∀ f ∈ fs, 0 < f.2 ∧ f.2 ≤ 8 ∧ f.1 < 256) (hex : ∃ f ∈ fs, holds n f = true) :
    Calls Tryz.prog 21 #[.pointer (some ⟨f, 0, none⟩), .int .i64 (n : Nat), .int .i64 (fixed : Nat), .int .i64 (under : Nat), .slice A fs.length cap] w (HeadPost f fixed under n fs w) := by
  by_cases h : n < under
  · exact putHead_fix f fixed under n A cap fs w hff h hfl (hor n h) hu hl hf hs
  · exact putHead_var f fixed under n A cap fs w hff (Or.inr (by omega)) (by omega) hn hu hl hf hs hex
theorem or_160 : ∀ m : Nat, m < 32 → bits .or .i64 160 m = ((160 + m : Nat) : Int) := by decide
theorem or_144 : ∀ m : Nat, m < 16 → bits .or .i64 144 m = ((144 + m : Nat) : Int) := by decide
theorem or_128 : ∀ m : Nat, m < 16 → bits .or .i64 128 m = ((128 + m : Nat) : Int) := by decide
theorem holds4 {n c : Nat} (h : n ≤ 1000000) : holds n (c, 4) = true := by
  have : n >>> 32 = 0 := by rw [Nat.shiftRight_eq_div_pow]; omega
  simp [holds, this]
theorem FsAt.new3 (w : World) (t : TypeId) (c0 s0 c1 s1 c2 s2 : Nat) : FsAt (w.alloc (.cells #[.int .i64 (c0 : Nat), .int .i64 (s0 : Nat), .int .i64 (c1 : Nat), .int .i64 (s1 : Nat), .int .i64 (c2 : Nat), .int .i64 (s2 : Nat)] t)) (some ⟨w.heap.size, 0, none⟩) [(c0, s0), (c1, s1), (c2, s2)] := by
  intro j hj
  refine ⟨w.heap.size, 0, rfl, ?_⟩
  rcases (show j = 0 ∨ j = 1 ∨ j = 2 by simp at hj; omega) with rfl | rfl | rfl <;> constructor <;> go_simp
theorem FsAt.new2 (w : World) (t : TypeId) (c0 s0 c1 s1 : Nat) : FsAt (w.alloc (.cells #[.int .i64 (c0 : Nat), .int .i64 (s0 : Nat), .int .i64 (c1 : Nat), .int .i64 (s1 : Nat)] t)) (some ⟨w.heap.size, 0, none⟩) [(c0, s0), (c1, s1)] := by
  intro j hj
  refine ⟨w.heap.size, 0, rfl, ?_⟩
  rcases (show j = 0 ∨ j = 1 by simp at hj; omega) with rfl | rfl <;> constructor <;> go_simp

theorem row_one_at (w : World) (B n g : Nat) (z : Int) (hB : B ≤ w.heap.size) (h : z = ((UInt8.ofNat n).toNat : Int)) (hg : w.heap.size = g) : Row (w.alloc (.cells #[.int .u8 z] 5)) B (.slice (some ⟨g, 0, none⟩) 1 1) [UInt8.ofNat n] := by
  subst hg
  exact row_one_lit w B n z hB h
section
variable {ops : Array Oper} {o : Oper} {a : Act} {w : World} {K : Act → World → Prop} {Q : Exit → Act → World → Prop} {E : Prop}
/-- 'append(s, x...)', x a string, as a step of a region that draws its order. -/
theorem step_row_append_str (hg : o.guard = none) (s x : Operand) (ho : o.op = .call { callee := .builtin .append, args := #[s, x], argTypes := #[29, 9] })
    (B : Nat) (v : Value) (xs : List UInt8) (hs : a.eval s = v) (hown : Row w B v xs) (t : ByteArray) (hx : a.eval x = .string t) (hbig : xs.length + t.size ≤ 140737488355328) (hbase : B ≤ w.heap.size)
    (h : ∀ v' w', Row w' B v' (xs ++ tx t) → w.grownBy w' v.ownBlock → K (a.put o.dst v') w') :
    if Region.wanted o (yielded ops a.tmps) = true then Oper.wp Tryz.prog o a w K Q else E := by
  have hw : Region.wanted o (yielded ops a.tmps) = true := by simp [Region.wanted, hg]
  rw [if_pos hw]
  obtain ⟨i, hi, hz, hz1, hz2⟩ := tryz_i5
  have hbig' : xs.length + t.size ≤ maxLen := by unfold maxLen; omega
  obtain ⟨v', w', hr, h2, h3, h4⟩ := Lib.run_append_own_string (P := Tryz.prog) w B 29 9 o.type 5 i tryz_u29 tryz_u9 hi hz hz1 hz2 v xs.length (xs.map u8v) hown t hbig' hbig hbase
  unfold Oper.wp execOp
  simp only [ho, resolve, invoke, builtin, Sem.run_bind, Sem.run_pure, Result.andThen_ok, List.map_toArray, List.map_cons, List.map_nil, hs, hx, hr]
  refine h v' w' ?_ h3
  unfold Row
  have hlen : (xs ++ tx t).length = xs.length + t.size := by rw [List.length_append, tx_length]
  have hmap : (xs ++ tx t).map u8v = xs.map u8v ++ Lib.strCells t := by rw [List.map_append]; rfl
  rw [hlen, hmap]
  exact h2
end
end Go.Proofs.YtbgckolcimlofaaGreatDoor
namespace Go.Proofs.YtbgckolcimlofaaGreatDoor
open Go.RowKit YtbgckolcimlofaaGreatDoorPj

theorem InRoom.tail {w : World} {F : Nat → Prop} {g o n cap : Nat} {c : UInt8} {bs : List UInt8} (h : InRoom w F (.slice (some ⟨g, o, none⟩) n cap) (c :: bs)) : InRoom w F (.slice (some ⟨g, o + 1, none⟩) (n - 1) (cap - 1)) bs := by
  obtain ⟨A, c', e, h1, h2, h3⟩ := h
  injection e with e1 e2 e3
  subst e1 e2 e3
  simp only [List.length_cons] at h1 h3 ⊢
  refine ⟨_, _, rfl, by omega, by omega, fun j hj => ?_⟩
  obtain ⟨b, off, e, hb, hc⟩ := h3 (j + 1) (by omega)
  injection e with e
  injection e with e1 e2
  subst e1 e2
  refine ⟨g, o + 1, rfl, hb, ?_⟩
  rw [show o + 1 + j = o + (j + 1) by omega]
  exact hc
theorem InRoom.of_get {w : World} {F : Nat → Prop} {v : Value} {bs : List UInt8} (h : InRoom w F v bs) (h0 : 0 < bs.length) : ∃ g o cap, v = .slice (some ⟨g, o, none⟩) bs.length cap ∧ bs.length ≤ cap ∧ cap ≤ 4398046511104 ∧ F g := by
  obtain ⟨g, o, cap, e, h1, h2, h3, _⟩ := h.get h0
  exact ⟨g, o, cap, e, h2, h3, h1⟩
theorem InRoom.of_getN {w : World} {F : Nat → Prop} {v : Value} {bs : List UInt8} (h : InRoom w F v bs) {k : Nat} (hk : bs.length = k) (h0 : 0 < k) : ∃ g o cap, v = .slice (some ⟨g, o, none⟩) k cap ∧ k ≤ cap ∧ cap ≤ 4398046511104 ∧ F g := by
  subst hk
  exact h.of_get h0
set_option maxRecDepth 100000 in
theorem maxStr (m : Nat) (w : World) (c5 : w.cell? ⟨m, 5, none⟩ = some (.int .u64 1048576)) : Calls Tryz.prog 73 #[.pointer (some ⟨m, 0, none⟩)] w (fun e w' => e = .returned (.int .u64 1048576) ∧ w = w') := by
  go_enter Tryz.func73, Tryz.ntmps73
  go_wp2
  go_ret
  exact ⟨rfl, rfl⟩
set_option maxRecDepth 100000 in
theorem maxElems (m : Nat) (w : World) (c4 : w.cell? ⟨m, 4, none⟩ = some (.int .u32 1048576)) : Calls Tryz.prog 99 #[.pointer (some ⟨m, 0, none⟩)] w (fun e w' => e = .returned (.int .u32 1048576) ∧ w = w') := by
  go_enter Tryz.func99, Tryz.ntmps99
  go_wp2
  go_ret
  exact ⟨rfl, rfl⟩
set_option maxRecDepth 100000 in
theorem maxDepth (m : Nat) (w : World) (c3 : w.cell? ⟨m, 3, none⟩ = some (.int .i64 0)) : Calls Tryz.prog 104 #[.pointer (some ⟨m, 0, none⟩)] w (fun e w' => e = .returned (.int .i64 100000) ∧ w = w') := by
  go_enter Tryz.func104, Tryz.ntmps104
  go_wp2
  go_ret
  exact ⟨rfl, rfl⟩
set_option maxRecDepth 100000 in
set_option maxHeartbeats 2000000 in
theorem readMap_fix (m n : Nat) (b : UInt8) (hb : b.toNat = 128 + n) (hn : n < 16) (F : Nat → Prop) (s : Nat) (r : List UInt8) (w w0 : World) (h : Went F s (b :: r) w0 w) (c0 : w.cell? ⟨m, 0, none⟩ = some (.pointer (some ⟨s, 0, none⟩))) (hm : m < w0.heap.size) (hF : ¬ F m) :
    Calls Tryz.prog 78 #[.pointer (some ⟨m, 0, none⟩)] w (GotW F s r (.tuple #[.int .u32 (n : Nat), .nilIface]) w0) := by
  have hb1 : 128 ≤ b.toNat := by omega
  have hb2 : b.toNat < 144 := by omega
  have HB := hid hb
  clear hb
  have HW := hid h
  have HC : Hid (∀ a w1, Went F s a w0 w1 → w1.cell? ⟨m, 0, none⟩ = some (.pointer (some ⟨s, 0, none⟩))) := hid fun a w1 h1 => (h1.cell hm hF).trans ((h.cell hm hF).symm.trans c0)
  clear h
  go_enter Tryz.func78, Tryz.ntmps78
  go_wp2_with (first
    | (go_at_call 45; refine (peekByte_w HW.out).mono ?_; rintro e w1 ⟨rfl, h1⟩; have k0 := HC.out _ _ h1; have H1 := hid h1; clear h1)
    | (go_at_call 102; refine (isfixmap_t b.toNat _ ⟨hb1, hb2⟩).mono ?_; rintro e w' ⟨rfl, rfl⟩)
    | (go_at_call 103; refine (rfixmap_at b.toNat _ ⟨hb1, hb2⟩).mono ?_; rintro e w' ⟨rfl, rfl⟩)
    | (go_at_call 68; refine (skip_w (n := 1) H1.out (by simp)).mono ?_; rintro e w2 ⟨rfl, h2⟩; have H2 := hid h2; clear h2))
  go_ret2
  refine ⟨?_, H2.out⟩
  have e : ((b.toNat : Int) - 128) = (n : Nat) := by have := HB.out; omega
  exact congrArg Ending.returned (congrArg Value.tuple (by simp [e]))
set_option maxRecDepth 100000 in
set_option maxHeartbeats 2000000 in
theorem readMap_222 (m n : Nat) (hn : n < 65536) (F : Nat → Prop) (s : Nat) (r : List UInt8) (w w0 : World) (h : Went F s ((222 :: be 2 n) ++ r) w0 w) (c0 : w.cell? ⟨m, 0, none⟩ = some (.pointer (some ⟨s, 0, none⟩))) (hm : m < w0.heap.size) (hF : ¬ F m) :
    Calls Tryz.prog 78 #[.pointer (some ⟨m, 0, none⟩)] w (GotW F s r (.tuple #[.int .u32 (n : Nat), .nilIface]) w0) := by
  have HW := hid h
  have HC : Hid (∀ a w1, Went F s a w0 w1 → w1.cell? ⟨m, 0, none⟩ = some (.pointer (some ⟨s, 0, none⟩))) := hid fun a w1 h1 => (h1.cell hm hF).trans ((h.cell hm hF).symm.trans c0)
  clear h
  have hz : IntKind.u16.wrap (n : Int) = (n : Int) := by simp [IntKind.wrap, IntKind.bits, IntKind.signed]; omega
  have HZ := hid hz
  clear hz
  go_enter Tryz.func78, Tryz.ntmps78
  go_wp2_with (first
    | (go_at_call 45; refine (peekByte_w (b := 222) HW.out).mono ?_; rintro e w1 ⟨rfl, h1⟩; have k0 := HC.out _ _ h1; have H1 := hid h1; clear h1)
    | (go_at_call 102; refine (isfixmap_f 222 (by decide) _ (by decide)).mono ?_; rintro e w' ⟨rfl, rfl⟩)
    | (go_at_call 69; refine (next_w (bs := 222 :: be 2 n) (n := 3) H1.out (by simp [be_length])).mono ?_; rintro e w2 ⟨v, F2, rfl, j0, j1, j2, j3⟩; obtain ⟨g, o, cap, rfl, q1, q2, -⟩ := j0.of_getN (k := 3) (by simp [be_length]) (by decide); have J0 := hid j0.tail; have J : Hid (Went F s r w0 w2) := hid ⟨F2, j1, j2, j3⟩; have q3 : (3 : Int) ≤ (cap : Int) := (by omega); have q5 : ¬ cap = 1 := (by omega); clear j0 j1 j2 j3))
  go_region_held3 (fun _ => True) (trivial)
    (first
      | (go_at_call 70; refine (beU16_be _ F2 _ n (J0.out.only (Only.drew (Only.refl (fun _ => False) _)) (fun _ _ h => h))).mono ?_; rintro e w3 ⟨rfl, q1⟩; rw [HZ.out]; have H3 : Hid (Went F s r w0 w3) := hid ((J.out.only (by simp)).only q1); clear q1))
  all_goals go_wp2
  all_goals
    go_ret2
    refine ⟨?_, H3.out⟩
    first
      | rfl
      | (have e : IntKind.u32.wrap (n : Int) = (n : Int) := by simp [IntKind.wrap, IntKind.bits, IntKind.signed]; omega
         exact congrArg Ending.returned (congrArg Value.tuple (by simp [e])))
set_option maxRecDepth 100000 in
set_option maxHeartbeats 2000000 in
theorem readMap_223 (m n : Nat) (hn : n < 4294967296) (F : Nat → Prop) (s : Nat) (r : List UInt8) (w w0 : World) (h : Went F s ((223 :: be 4 n) ++ r) w0 w) (c0 : w.cell? ⟨m, 0, none⟩ = some (.pointer (some ⟨s, 0, none⟩))) (hm : m < w0.heap.size) (hF : ¬ F m) :
    Calls Tryz.prog 78 #[.pointer (some ⟨m, 0, none⟩)] w (GotW F s r (.tuple #[.int .u32 (n : Nat), .nilIface]) w0) := by
  have HW := hid h
  have HC : Hid (∀ a w1, Went F s a w0 w1 → w1.cell? ⟨m, 0, none⟩ = some (.pointer (some ⟨s, 0, none⟩))) := hid fun a w1 h1 => (h1.cell hm hF).trans ((h.cell hm hF).symm.trans c0)
  clear h
  have hz : IntKind.u32.wrap (n : Int) = (n : Int) := by simp [IntKind.wrap, IntKind.bits, IntKind.signed]; omega
  have HZ := hid hz
  clear hz
  go_enter Tryz.func78, Tryz.ntmps78
  go_wp2_with (first
    | (go_at_call 45; refine (peekByte_w (b := 223) HW.out).mono ?_; rintro e w1 ⟨rfl, h1⟩; have k0 := HC.out _ _ h1; have H1 := hid h1; clear h1)
    | (go_at_call 102; refine (isfixmap_f 223 (by decide) _ (by decide)).mono ?_; rintro e w' ⟨rfl, rfl⟩)
    | (go_at_call 69; refine (next_w (bs := 223 :: be 4 n) (n := 5) H1.out (by simp [be_length])).mono ?_; rintro e w2 ⟨v, F2, rfl, j0, j1, j2, j3⟩; obtain ⟨g, o, cap, rfl, q1, q2, -⟩ := j0.of_getN (k := 5) (by simp [be_length]) (by decide); have J0 := hid j0.tail; have J : Hid (Went F s r w0 w2) := hid ⟨F2, j1, j2, j3⟩; have q3 : (5 : Int) ≤ (cap : Int) := (by omega); have q5 : ¬ cap = 1 := (by omega); clear j0 j1 j2 j3))
  go_region_held3 (fun _ => True) (trivial)
    (first
      | (go_at_call 71; refine (beU32_be _ F2 _ n (J0.out.only (Only.drew (Only.refl (fun _ => False) _)) (fun _ _ h => h))).mono ?_; rintro e w3 ⟨rfl, q1⟩; rw [HZ.out]; have H3 : Hid (Went F s r w0 w3) := hid ((J.out.only (by simp)).only q1); clear q1))
  all_goals go_wp2
  all_goals
    go_ret2
    refine ⟨?_, H3.out⟩
    first
      | rfl
      | (have e : IntKind.u32.wrap (n : Int) = (n : Int) := by simp [IntKind.wrap, IntKind.bits, IntKind.signed]; omega
         exact congrArg Ending.returned (congrArg Value.tuple (by simp [e])))
set_option maxRecDepth 100000 in
set_option maxHeartbeats 2000000 in
theorem readArray_fix (m n : Nat) (b : UInt8) (hb : b.toNat = 144 + n) (hn : n < 16) (F : Nat → Prop) (s : Nat) (r : List UInt8) (w w0 : World) (h : Went F s (b :: r) w0 w) (c0 : w.cell? ⟨m, 0, none⟩ = some (.pointer (some ⟨s, 0, none⟩))) (hm : m < w0.heap.size) (hF : ¬ F m) :
    Calls Tryz.prog 85 #[.pointer (some ⟨m, 0, none⟩)] w (GotW F s r (.tuple #[.int .u32 (n : Nat), .nilIface]) w0) := by
  have hb1 : 144 ≤ b.toNat := by omega
  have hb2 : b.toNat < 160 := by omega
  have HB := hid hb
  clear hb
  have HW := hid h
  have HC : Hid (∀ a w1, Went F s a w0 w1 → w1.cell? ⟨m, 0, none⟩ = some (.pointer (some ⟨s, 0, none⟩))) := hid fun a w1 h1 => (h1.cell hm hF).trans ((h.cell hm hF).symm.trans c0)
  clear h
  go_enter Tryz.func85, Tryz.ntmps85
  go_wp2_with (first
    | (go_at_call 45; refine (peekByte_w HW.out).mono ?_; rintro e w1 ⟨rfl, h1⟩; have k0 := HC.out _ _ h1; have H1 := hid h1; clear h1)
    | (go_at_call 121; refine (isfixarray_t b.toNat _ ⟨hb1, hb2⟩).mono ?_; rintro e w' ⟨rfl, rfl⟩)
    | (go_at_call 122; refine (rfixarray_at b.toNat _ ⟨hb1, hb2⟩).mono ?_; rintro e w' ⟨rfl, rfl⟩)
    | (go_at_call 68; refine (skip_w (n := 1) H1.out (by simp)).mono ?_; rintro e w2 ⟨rfl, h2⟩; have H2 := hid h2; clear h2))
  go_ret2
  refine ⟨?_, H2.out⟩
  have e : ((b.toNat : Int) - 144) = (n : Nat) := by have := HB.out; omega
  exact congrArg Ending.returned (congrArg Value.tuple (by simp [e]))
set_option maxRecDepth 100000 in
set_option maxHeartbeats 2000000 in
theorem readArray_220 (m n : Nat) (hn : n < 65536) (F : Nat → Prop) (s : Nat) (r : List UInt8) (w w0 : World) (h : Went F s ((220 :: be 2 n) ++ r) w0 w) (c0 : w.cell? ⟨m, 0, none⟩ = some (.pointer (some ⟨s, 0, none⟩))) (hm : m < w0.heap.size) (hF : ¬ F m) :
    Calls Tryz.prog 85 #[.pointer (some ⟨m, 0, none⟩)] w (GotW F s r (.tuple #[.int .u32 (n : Nat), .nilIface]) w0) := by
  have HW := hid h
  have HC : Hid (∀ a w1, Went F s a w0 w1 → w1.cell? ⟨m, 0, none⟩ = some (.pointer (some ⟨s, 0, none⟩))) := hid fun a w1 h1 => (h1.cell hm hF).trans ((h.cell hm hF).symm.trans c0)
  clear h
  have hz : IntKind.u16.wrap (n : Int) = (n : Int) := by simp [IntKind.wrap, IntKind.bits, IntKind.signed]; omega
  have HZ := hid hz
  clear hz
  go_enter Tryz.func85, Tryz.ntmps85
  go_wp2_with (first
    | (go_at_call 45; refine (peekByte_w (b := 220) HW.out).mono ?_; rintro e w1 ⟨rfl, h1⟩; have k0 := HC.out _ _ h1; have H1 := hid h1; clear h1)
    | (go_at_call 121; refine (isfixarray_f 220 (by decide) _ (by decide)).mono ?_; rintro e w' ⟨rfl, rfl⟩)
    | (go_at_call 69; refine (next_w (bs := 220 :: be 2 n) (n := 3) H1.out (by simp [be_length])).mono ?_; rintro e w2 ⟨v, F2, rfl, j0, j1, j2, j3⟩; obtain ⟨g, o, cap, rfl, q1, q2, -⟩ := j0.of_getN (k := 3) (by simp [be_length]) (by decide); have J0 := hid j0.tail; have J : Hid (Went F s r w0 w2) := hid ⟨F2, j1, j2, j3⟩; have q3 : (3 : Int) ≤ (cap : Int) := (by omega); have q5 : ¬ cap = 1 := (by omega); clear j0 j1 j2 j3))
  go_region_held3 (fun _ => True) (trivial)
    (first
      | (go_at_call 70; refine (beU16_be _ F2 _ n (J0.out.only (Only.drew (Only.refl (fun _ => False) _)) (fun _ _ h => h))).mono ?_; rintro e w3 ⟨rfl, q1⟩; rw [HZ.out]; have H3 : Hid (Went F s r w0 w3) := hid ((J.out.only (by simp)).only q1); clear q1))
  all_goals go_wp2
  all_goals
    go_ret2
    refine ⟨?_, H3.out⟩
    first
      | rfl
      | (have e : IntKind.u32.wrap (n : Int) = (n : Int) := by simp [IntKind.wrap, IntKind.bits, IntKind.signed]; omega
         exact congrArg Ending.returned (congrArg Value.tuple (by simp [e])))
set_option maxRecDepth 100000 in
set_option maxHeartbeats 2000000 in
theorem readArray_221 (m n : Nat) (hn : n < 4294967296) (F : Nat → Prop) (s : Nat) (r : List UInt8) (w w0 : World) (h : Went F s ((221 :: be 4 n) ++ r) w0 w) (c0 : w.cell? ⟨m, 0, none⟩ = some (.pointer (some ⟨s, 0, none⟩))) (hm : m < w0.heap.size) (hF : ¬ F m) :
    Calls Tryz.prog 85 #[.pointer (some ⟨m, 0, none⟩)] w (GotW F s r (.tuple #[.int .u32 (n : Nat), .nilIface]) w0) := by
  have HW := hid h
  have HC : Hid (∀ a w1, Went F s a w0 w1 → w1.cell? ⟨m, 0, none⟩ = some (.pointer (some ⟨s, 0, none⟩))) := hid fun a w1 h1 => (h1.cell hm hF).trans ((h.cell hm hF).symm.trans c0)
  clear h
  have hz : IntKind.u32.wrap (n : Int) = (n : Int) := by simp [IntKind.wrap, IntKind.bits, IntKind.signed]; omega
  have HZ := hid hz
  clear hz
  go_enter Tryz.func85, Tryz.ntmps85
  go_wp2_with (first
    | (go_at_call 45; refine (peekByte_w (b := 221) HW.out).mono ?_; rintro e w1 ⟨rfl, h1⟩; have k0 := HC.out _ _ h1; have H1 := hid h1; clear h1)
    | (go_at_call 121; refine (isfixarray_f 221 (by decide) _ (by decide)).mono ?_; rintro e w' ⟨rfl, rfl⟩)
    | (go_at_call 69; refine (next_w (bs := 221 :: be 4 n) (n := 5) H1.out (by simp [be_length])).mono ?_; rintro e w2 ⟨v, F2, rfl, j0, j1, j2, j3⟩; obtain ⟨g, o, cap, rfl, q1, q2, -⟩ := j0.of_getN (k := 5) (by simp [be_length]) (by decide); have J0 := hid j0.tail; have J : Hid (Went F s r w0 w2) := hid ⟨F2, j1, j2, j3⟩; have q3 : (5 : Int) ≤ (cap : Int) := (by omega); have q5 : ¬ cap = 1 := (by omega); clear j0 j1 j2 j3))
  go_region_held3 (fun _ => True) (trivial)
    (first
      | (go_at_call 71; refine (beU32_be _ F2 _ n (J0.out.only (Only.drew (Only.refl (fun _ => False) _)) (fun _ _ h => h))).mono ?_; rintro e w3 ⟨rfl, q1⟩; rw [HZ.out]; have H3 : Hid (Went F s r w0 w3) := hid ((J.out.only (by simp)).only q1); clear q1))
  all_goals go_wp2
  all_goals
    go_ret2
    refine ⟨?_, H3.out⟩
    first
      | rfl
      | (have e : IntKind.u32.wrap (n : Int) = (n : Int) := by simp [IntKind.wrap, IntKind.bits, IntKind.signed]; omega
         exact congrArg Ending.returned (congrArg Value.tuple (by simp [e])))
end Go.Proofs.YtbgckolcimlofaaGreatDoor
