/-
  The Encode of base64 for one text in groups of three; within the bound.
-/
import Derived.Test.YtbgckolcimlofaaGreatDoorProg
import Derived.Test.YtbgckolcimlofaaGreatDoorT17
import Derived.Test.YtbgckolcimlofaaGreatDoorT08
import Derived.Deep.LoopGhost
import Derived.Deep.DeepCutAuto
import Derived.Laws.Rows
import Derived.Maps.RangeWalk
set_option linter.unusedVariables false
set_option linter.unusedSimpArgs false
namespace Go.Proofs.YtbgckolcimlofaaGreatDoor
open Go.RowKit YtbgckolcimlofaaGreatDoorPj

/-- An encoding of base64. -/
structure EncAt (w : World) (e : Nat) : Prop where
  enc : ∀ k, k < 64 → w.cell? ⟨e, k, none⟩ = some (u8v (b64c k))
  pad : w.cell? ⟨e, 320, none⟩ = some (.int .i32 61)
theorem EncAt.only {w w' : World} {e : Nat} {S : Nat → Prop} (h : EncAt w e) (ho : Only S w w') (hS : ¬ S e) : EncAt w' e := by
  have hl := World.block_lt_of_cell? w _ h.pad
  exact ⟨fun k hk => (ho.cell hl hS).trans (h.enc k hk), (ho.cell hl hS).trans h.pad⟩
/-- Cells of a block have been written. -/
structure Put (w w' : World) (g off : Nat) (bs : List UInt8) : Prop where
  only : Only (fun k => k = g) w w'
  size : w'.heap.size = w.heap.size
  cells : ∀ j (h : j < bs.length), w'.cell? ⟨g, off + j, none⟩ = some (u8v bs[j])
  rest : ∀ o, o < off ∨ off + bs.length ≤ o → w'.cell? ⟨g, o, none⟩ = w.cell? ⟨g, o, none⟩
  free : ∀ o, w'.frozen? ⟨g, o, none⟩ = w.frozen? ⟨g, o, none⟩
theorem Put.refl (w : World) (g off : Nat) : Put w w g off [] := ⟨Only.refl _ _, rfl, fun j h => absurd h (by simp), fun _ _ => rfl, fun _ => rfl⟩
theorem Put.src {w w' : World} {g off sb so L : Nat} {bs : List UInt8} (h : Put w w' g off bs) (hap : sb ≠ g ∨ so + L ≤ off) {o : Nat} (ho : o < so + L) {v : Value} (hc : w.cell? ⟨sb, o, none⟩ = some v) : w'.cell? ⟨sb, o, none⟩ = some v := by
  by_cases e : sb = g
  · subst e
    rcases hap with e | e
    · exact absurd rfl e
    · rw [h.rest o (Or.inl (by omega))]; exact hc
  · exact (h.only.cell (World.block_lt_of_cell? w _ hc) e).trans hc
theorem u64_or {a b s : Nat} (ha : a % 2 ^ s = 0) (hb : b < 2 ^ s) (h1 : a + b < 18446744073709551616) : bits .or .u64 (a : Int) (b : Int) = ((a + b : Nat) : Int) := by
  have h2 : IntKind.u64.wrap (a : Int) = (a : Int) := by rw [IntKind.wrap_u64]; omega
  have h3 : IntKind.u64.wrap (b : Int) = (b : Int) := by rw [IntKind.wrap_u64]; omega
  have h4 : IntKind.u64.wrap ((a + b : Nat) : Int) = ((a + b : Nat) : Int) := by rw [IntKind.wrap_u64]; omega
  have := orv (k := .u64) a b s h2.symm h3.symm ha hb
  rw [h4] at this
  exact this
set_option maxRecDepth 100000 in
/-- The load of an array whose value nobody asks for. -/
theorem wpList_load_some {ops : Array Oper} {rest : List Oper} {o : Oper} {a : Act} {w : World} {Q : Exit → Act → World → Prop} (hgd : o.guard = none) (ty : TypeId) (x : Operand) (ho : o.op = .load ty x)
    (g : Nat) (hx : a.eval x = .pointer (some ⟨g, 0, none⟩)) (cs : List Value) (hc : ∀ j v, cs[j]? = some v → w.cell? ⟨g, j, none⟩ = some v) (d : TypeDesc)
    (hu : Tryz.prog.underlying ty = some d) (hd : (match d with | .struct _ | .array _ _ => true | _ => false) = true) (hi : (Tryz.prog.info? ty).map (·.size) = some cs.length)
    (h : ∀ V, wpList Tryz.prog ops Q rest (a.put o.dst V) w) : wpList Tryz.prog ops Q (o :: rest) a w := by
  have hl : (loadCells ⟨g, 0, none⟩ cs.length).run Tryz.prog w = .ok cs.toArray w :=
    run_loadCells_list (P := Tryz.prog) w ⟨g, 0, none⟩ cs (fun j v hv => by
      have hadd : (⟨g, 0, none⟩ : Addr).add j = ⟨g, j, none⟩ := by unfold Addr.add; split <;> simp_all
      rw [hadd]
      exact hc j v hv)
  have hrun : (loadVar ty ⟨g, 0, none⟩).run Tryz.prog w = .ok (.agg cs.toArray) w := by
    cases hq : Tryz.prog.info? ty with
    | none => simp [hq] at hi
    | some i =>
      have hs : i.size = cs.length := by simpa [hq] using hi
      have hagg : (isAgg ty).run Tryz.prog w = .ok true w := by
        unfold isAgg
        rw [Sem.run_bind, run_underlying hu w]
        cases d <;> simp_all
      simp [loadVar, Sem.run_bind, hagg, sizeOf, typeInfo, hq, hs, hl]
  refine wpList_plain hgd fun K hK => ?_
  unfold Oper.wp execOp
  simp only [ho, hx, Instr.loadAt, Instr.sureAddr, Sem.run_bind, Sem.run_pure, Result.andThen_ok, hrun]
  exact hK _ _ (h _)
def encL : List Value := (List.range 64).map fun k => u8v (b64c k)
theorem encL_len : encL.length = 64 := by simp [encL]
theorem EncAt.load {w : World} {e : Nat} (h : EncAt w e) : ∀ j v, encL[j]? = some v → w.cell? ⟨e, j, none⟩ = some v := by
  intro j v hv
  obtain ⟨hj, rfl⟩ := List.getElem?_eq_some_iff.1 hv
  rw [encL_len] at hj
  rw [h.enc j hj]
  simp [encL]
theorem tryz_i212 : (Tryz.prog.info? 212).map (·.size) = some 64 := by kernel_rfl
theorem tryz_u212 : Tryz.prog.underlying 212 = some (.array 64 5) := by kernel_rfl
theorem b64_mul : ∀ (k : Nat) (l : List UInt8), l.length = 3 * k → (b64 l).length = 4 * k
  | 0, l, h => by
    have : l = [] := List.eq_nil_of_length_eq_zero (by omega)
    subst this
    rfl
  | k + 1, a :: b :: c :: r, h => by
    have := b64_mul k r (by simp at h; omega)
    simp [b64, this]
    omega
  | k + 1, [], h => by simp at h
  | k + 1, [_], h => by simp at h; omega
  | k + 1, [_, _], h => by simp at h; omega
theorem Put.enc {w w' : World} {g off e : Nat} {bs : List UInt8} (h : Put w w' g off bs) (he : EncAt w e) (hne : e ≠ g) : EncAt w' e := he.only h.only hne
theorem Put.one {w w1 : World} {g off : Nat} {bs : List UInt8} (h : Put w w1 g off bs) (b : UInt8) {o : Nat} (ho : o = off + bs.length) {old : Value} (hc : w1.cell? ⟨g, o, none⟩ = some old) : Put w (w1.setCell ⟨g, o, none⟩ (u8v b)) g off (bs ++ [b]) := by
  subst ho
  have hl := World.block_lt_of_cell? w1 _ hc
  refine ⟨h.only.trans' (Only.setCell (S := fun k => k = g) (p := ⟨g, off + bs.length, none⟩) (Only.refl _ _) (fun _ => rfl) _) (fun i hi e => e), by simpa using h.size, fun j hj => ?_, fun i hi => ?_, fun i => ?_⟩
  · by_cases e : j < bs.length
    · rw [List.getElem_append_left e]
      have h1 := h.cells j e
      have hne : ¬ off + j = off + bs.length := by omega
      have hne2 : ¬ off + bs.length = off + j := by omega
      go_simp
    · have : j = bs.length := by simp at hj; omega
      subst this
      have e2 : (bs ++ [b])[bs.length] = b := by simp
      rw [e2]
      go_simp
  · simp at hi
    have h1 := h.rest i (by omega)
    have hne : ¬ i = off + bs.length := by omega
    have hne2 : ¬ off + bs.length = i := by omega
    rw [← h1]
    go_simp
  · rw [← h.free i]
    simp
theorem Put.four {w w1 : World} {g off : Nat} {bs : List UInt8} (h : Put w w1 g off bs) (a b c d : UInt8) {o : Nat} (ho : o = off + bs.length) {x0 x1 x2 x3 : Value} (h0 : w1.cell? ⟨g, o, none⟩ = some x0) (h1 : w1.cell? ⟨g, o + 1, none⟩ = some x1)
    (h2 : w1.cell? ⟨g, o + 2, none⟩ = some x2) (h3 : w1.cell? ⟨g, o + 3, none⟩ = some x3) :
    Put w ((((w1.setCell ⟨g, o, none⟩ (u8v a)).setCell ⟨g, o + 1, none⟩ (u8v b)).setCell ⟨g, o + 2, none⟩ (u8v c)).setCell ⟨g, o + 3, none⟩ (u8v d)) g off (bs ++ [a, b, c, d]) := by
  subst ho
  have k1 := h.one a rfl h0
  have k2 := k1.one b (o := off + bs.length + 1) (by simp; omega) (old := x1) (by go_simp)
  have k3 := k2.one c (o := off + bs.length + 2) (by simp; omega) (old := x2) (by go_simp)
  have k4 := k3.one d (o := off + bs.length + 3) (by simp; omega) (old := x3) (by go_simp)
  simpa using k4
theorem Put.drewN {w w1 : World} {g off : Nat} {bs : List UInt8} (h : Put w w1 g off bs) (q : Nat) : Put w (w1.drewN q) g off bs :=
  ⟨h.only.drewN q, by simpa using h.size, fun j hj => by simpa using h.cells j hj, fun i hi => by simpa using h.rest i hi, fun i => by simpa using h.free i⟩
theorem b64_snoc : ∀ (k : Nat) (l r : List UInt8), l.length = 3 * k → b64 (l ++ r) = b64 l ++ b64 r
  | 0, l, r, h => by
    have : l = [] := List.eq_nil_of_length_eq_zero (by omega)
    subst this
    rfl
  | k + 1, a :: b :: c :: l, r, h => by
    have := b64_snoc k l r (by simp at h; omega)
    simp [b64, this]
  | k + 1, [], r, h => by simp at h
  | k + 1, [_], r, h => by simp at h; omega
  | k + 1, [_, _], r, h => by simp at h; omega
theorem slice_len {A : Option Addr} {m m' c : Nat} (h : m = m') : Value.slice A m c = Value.slice A m' c := by rw [h]
theorem b64_three (a b c : UInt8) (v : Nat) (hv : v = a.toNat * 65536 + b.toNat * 256 + c.toNat) : b64 [a, b, c] = [b64c (v / 262144 % 64), b64c (v / 4096 % 64), b64c (v / 64 % 64), b64c (v % 64)] := by
  have ha := a.toNat_lt
  have hb := b.toNat_lt
  have hc := c.toNat_lt
  simp only [b64]
  rw [show a.toNat / 4 = v / 262144 % 64 by omega, show a.toNat % 4 * 16 + b.toNat / 16 = v / 4096 % 64 by omega, show b.toNat % 16 * 4 + c.toNat / 64 = v / 64 % 64 by omega, show c.toNat % 64 = v % 64 by omega]
theorem take_three (l : List UInt8) (i : Nat) (h : i + 3 ≤ l.length) : l.take (i + 3) = l.take i ++ [l[i], l[i + 1], l[i + 2]] := by
  rw [List.take_add]
  congr 1
  rw [List.drop_eq_getElem_cons (by omega : i < l.length), List.drop_eq_getElem_cons (by omega : i + 1 < l.length), List.drop_eq_getElem_cons (by omega : i + 1 + 1 < l.length)]
  rfl
theorem b64_one (a : UInt8) (v : Nat) (hv : v = a.toNat * 65536) : b64 [a] = [b64c (v / 262144 % 64), b64c (v / 4096 % 64), 61, 61] := by
  have ha := a.toNat_lt
  simp only [b64]
  rw [show a.toNat / 4 = v / 262144 % 64 by omega, show a.toNat % 4 * 16 = v / 4096 % 64 by omega]
theorem b64_two (a b : UInt8) (v : Nat) (hv : v = a.toNat * 65536 + b.toNat * 256) : b64 [a, b] = [b64c (v / 262144 % 64), b64c (v / 4096 % 64), b64c (v / 64 % 64), 61] := by
  have ha := a.toNat_lt
  have hb := b.toNat_lt
  simp only [b64]
  rw [show a.toNat / 4 = v / 262144 % 64 by omega, show a.toNat % 4 * 16 + b.toNat / 16 = v / 4096 % 64 by omega, show b.toNat % 16 * 4 = v / 64 % 64 by omega]
theorem or2v (b0 b1 : Nat) (h0 : b0 < 256) (h1 : b1 < 256) : bits .or .u64 ((b0 : Int) * 65536) ((b1 : Int) * 256) = ((b0 * 65536 + b1 * 256 : Nat) : Int) := by
  have := u64_or (a := b0 * 65536) (b := b1 * 256) (s := 16) (by omega) (by omega) (by omega)
  rw [← this]
  simp
theorem or3v (b0 b1 b2 : Nat) (h0 : b0 < 256) (h1 : b1 < 256) (h2 : b2 < 256) : bits .or .u64 (bits .or .u64 ((b0 : Int) * 65536) ((b1 : Int) * 256)) (b2 : Int) = ((b0 * 65536 + b1 * 256 + b2 : Nat) : Int) := by
  rw [or2v b0 b1 h0 h1]
  exact u64_or (s := 8) (by omega) (by omega) (by omega)
theorem u64_and63 (x : Int) (h0 : 0 ≤ x) (h : x < 9223372036854775808) : bits .and .u64 x 63 = x % 64 :=
  bits_mask .u64 63 (by decide) (fun n h0 h1 => by rw [IntKind.wrap_u64]; omega) 6 (by decide) x h0 h
set_option maxRecDepth 100000 in
set_option maxHeartbeats 4000000 in
theorem encode (e g off n dc sb so L sc : Nat) (bs : List UInt8) (w : World) (he : EncAt w e) (hL : bs.length = L) (hLc : L ≤ sc) (hL2 : L ≤ 768) (hn : n ≤ dc) (hnb : n ≤ 1024) (hout : (L + 2) / 3 * 4 ≤ n)
    (hs : ∀ j (h : j < bs.length), w.cell? ⟨sb, so + j, none⟩ = some (u8v bs[j])) (hd : ∀ j, j < n → ∃ x : Int, w.cell? ⟨g, off + j, none⟩ = some (.int .u8 x)) (hf : ∀ j, j < n → w.frozen? ⟨g, off + j, none⟩ = false)
    (heg : e ≠ g) (hap : sb ≠ g ∨ so + L ≤ off) :
    Calls Tryz.prog 212 #[.pointer (some ⟨e, 0, none⟩), .slice (some ⟨g, off, none⟩) n dc, .slice (some ⟨sb, so, none⟩) L sc] w (fun en w' => en = .returned (.tuple #[]) ∧ Put w w' g off (b64 bs)) := by
  have HE := hid he
  have HS := hid hs
  have HD := hid hd
  have HF := hid hf
  have HLL := hid hL
  have HAP := hid hap
  have HEG := hid heg
  clear he hs hd hf hL hap heg
  by_cases h0 : L = 0
  · have hz : ((L : Int) == 0) = true := by simp; omega
    have hbs : bs = [] := List.eq_nil_of_length_eq_zero (by rw [HLL.out]; exact h0)
    have HBS := hid hbs
    clear h0 hbs
    go_enter Tryz.func212, Tryz.ntmps212
    go_wp2
    first
      | go_end0
      | refine bodyPost_ret (results_none rfl _ _ _) rfl ?_
    exact ⟨rfl, by rw [HBS.out]; exact Put.refl _ _ _⟩
  · have hz : ((L : Int) == 0) = false := by simp; omega
    have h0' : 0 < L := by omega
    clear h0
    have c0 := HE.out.enc 0 (by omega)
    go_enter Tryz.func212, Tryz.ntmps212
    go_wp2_with (refine wpList_load_some rfl 212 _ rfl e rfl encL HE.out.load _ tryz_u212 rfl tryz_i212 ?_; intro V)
    go_frame
    go_loopg [1, 2] (L / 3 + 1) (fun m v1 v2 wr => ∃ (k c1 c2 : Nat) (A1 A2 : Option Addr), k + m = L / 3 + 1 ∧ 3 * k ≤ L ∧ v1 = .slice A1 (n - 4 * k) c1 ∧ v2 = .slice A2 (L - 3 * k) c2 ∧ n - 4 * k ≤ c1 ∧ L - 3 * k ≤ c2 ∧ Hid (0 < n - 4 * k → A1 = some ⟨g, off + 4 * k, none⟩) ∧ Hid (0 < L - 3 * k → A2 = some ⟨sb, so + 3 * k, none⟩) ∧ Hid (Put w wr g off (b64 (bs.take (3 * k)))))
    case atStart => exact ⟨0, dc, sc, _, _, by omega, by omega, rfl, rfl, by omega, by omega, hid fun _ => rfl, hid fun _ => rfl, hid (by simpa [b64] using Put.refl w g off)⟩
    case round =>
      obtain ⟨k, c1, c2, A1, A2, hkm, hkL, rfl, rfl, hc1, hc2, HA1, HA2, HP⟩ := hrel
      by_cases hlt : 3 * k + 3 ≤ L
      · have e1 := HA1.out (by omega)
        have e2 := HA2.out (by omega)
        subst e1 e2
        have hk3 : 3 * k + 3 ≤ bs.length := by rw [HLL.out]; exact hlt
        obtain ⟨b0, h0⟩ : ∃ b : Nat, b = (bs[3 * k]'(by omega)).toNat := ⟨_, rfl⟩
        obtain ⟨b1, h1⟩ : ∃ b : Nat, b = (bs[3 * k + 1]'(by omega)).toNat := ⟨_, rfl⟩
        obtain ⟨b2, h2⟩ : ∃ b : Nat, b = (bs[3 * k + 2]'(by omega)).toNat := ⟨_, rfl⟩
        have s0 : wr.cell? ⟨sb, so + 3 * k, none⟩ = some (.int .u8 (b0 : Nat)) := by rw [h0]; exact HP.out.src HAP.out (by omega) (HS.out (3 * k) (by omega))
        have s1 : wr.cell? ⟨sb, so + 3 * k + 1, none⟩ = some (.int .u8 (b1 : Nat)) := by rw [h1]; exact HP.out.src HAP.out (by omega) (HS.out (3 * k + 1) (by omega))
        have s2 : wr.cell? ⟨sb, so + 3 * k + 2, none⟩ = some (.int .u8 (b2 : Nat)) := by rw [h2]; exact HP.out.src HAP.out (by omega) (HS.out (3 * k + 2) (by omega))
        have l0 : b0 < 256 := by rw [h0]; exact UInt8.toNat_lt _
        have l1 : b1 < 256 := by rw [h1]; exact UInt8.toNat_lt _
        have l2 : b2 < 256 := by rw [h2]; exact UInt8.toNat_lt _
        have B0 := hid h0
        have B1 := hid h1
        have B2 := hid h2
        clear h0 h1 h2
        have g3 : (3 : Int) ≤ ((L - 3 * k : Nat) : Int) := by omega
        go_wp2_with fail
        go_upto_region 4 with fail
        go_cut [6] (fun v6 wx => v6 = .int .u64 ((b0 * 65536 + b1 * 256 + b2 : Nat) : Int) ∧ ∃ q, wx = wr.drewN q)
        case first =>
          go_quiet (fail)
          go_wp2
          go_meet
          exact ⟨by rw [or3v b0 b1 b2 l0 l1 l2], _, rfl⟩
        case rest =>
          obtain ⟨rfl, q, rfl⟩ := hcut
          obtain ⟨v, hv⟩ : ∃ v : Nat, v = b0 * 65536 + b1 * 256 + b2 := ⟨_, rfl⟩
          rw [← hv]
          have hv2 : v < 16777216 := by omega
          have HV := hid hv
          have a0 := u64_and63 ((v : Int) / 262144) (by omega) (by omega)
          have a1 := u64_and63 ((v : Int) / 4096) (by omega) (by omega)
          have a2 := u64_and63 ((v : Int) / 64) (by omega) (by omega)
          have a3 := u64_and63 (v : Int) (by omega) (by omega)
          have hbl : (b64 (bs.take (3 * k))).length = 4 * k := b64_mul k _ (by rw [List.length_take]; omega)
          have hdl : ∀ j, j < n → 4 * k ≤ j → ∃ x : Int, wr.cell? ⟨g, off + j, none⟩ = some (.int .u8 x) := fun j hj h4 => by
            obtain ⟨x, hx⟩ := HD.out j hj
            exact ⟨x, by rw [HP.out.rest (off + j) (Or.inr (by rw [hbl]; omega))]; exact hx⟩
          have hn4 : 4 * k + 4 ≤ n := by omega
          obtain ⟨x0, d0⟩ := hdl (4 * k) (by omega) (by omega)
          obtain ⟨x1, d1⟩ := hdl (4 * k + 1) (by omega) (by omega)
          obtain ⟨x2, d2⟩ := hdl (4 * k + 2) (by omega) (by omega)
          obtain ⟨x3, d3⟩ := hdl (4 * k + 3) (by omega) (by omega)
          have f0 : wr.frozen? ⟨g, off + 4 * k, none⟩ = false := (HP.out.free _).trans (HF.out (4 * k) (by omega))
          have f1 : wr.frozen? ⟨g, off + 4 * k + 1, none⟩ = false := (HP.out.free _).trans (HF.out (4 * k + 1) (by omega))
          have f2 : wr.frozen? ⟨g, off + 4 * k + 2, none⟩ = false := (HP.out.free _).trans (HF.out (4 * k + 2) (by omega))
          have f3 : wr.frozen? ⟨g, off + 4 * k + 3, none⟩ = false := (HP.out.free _).trans (HF.out (4 * k + 3) (by omega))
          have k0 : wr.cell? ⟨e, v / 262144 % 64, none⟩ = some (.int .u8 ((b64c (v / 262144 % 64)).toNat : Int)) := (HP.out.enc HE.out HEG.out).enc _ (by omega)
          have k1 : wr.cell? ⟨e, v / 4096 % 64, none⟩ = some (.int .u8 ((b64c (v / 4096 % 64)).toNat : Int)) := (HP.out.enc HE.out HEG.out).enc _ (by omega)
          have k2 : wr.cell? ⟨e, v / 64 % 64, none⟩ = some (.int .u8 ((b64c (v / 64 % 64)).toNat : Int)) := (HP.out.enc HE.out HEG.out).enc _ (by omega)
          have k3 : wr.cell? ⟨e, v % 64, none⟩ = some (.int .u8 ((b64c (v % 64)).toNat : Int)) := (HP.out.enc HE.out HEG.out).enc _ (by omega)
          have hne1 : ¬ e = g := HEG.out
          have hne2 : ¬ g = e := fun h => HEG.out h.symm
          have HBL := hid hbl
          rw [← Nat.add_assoc] at d1 d2 d3
          clear hv s0 s1 s2 hdl hbl c0
          go_wp2_with fail
          all_goals
            go_roundg (gk - 1)
            case measure => omega
            case rel =>
              refine ⟨k + 1, _, _, _, _, by omega, by omega, slice_len (by omega), slice_len (by omega), by omega, by omega, hid fun h => ?_, hid fun h => ?_, hid ?_⟩
              · first
                  | (exfalso; omega)
                  | exact congrArg some (congrArg (fun x => (⟨g, x, none⟩ : Addr)) (by omega))
              · first
                  | (exfalso; omega)
                  | exact congrArg some (congrArg (fun x => (⟨sb, x, none⟩ : Addr)) (by omega))
              · have hp := (HP.out.drewN q).four (b64c (v / 262144 % 64)) (b64c (v / 4096 % 64)) (b64c (v / 64 % 64)) (b64c (v % 64)) (o := off + 4 * k) (by rw [HBL.out]) (x0 := .int .u8 x0) (x1 := .int .u8 x1) (x2 := .int .u8 x2) (x3 := .int .u8 x3) (by go_simp) (by go_simp) (by go_simp) (by go_simp)
                rw [show 3 * (k + 1) = 3 * k + 3 by omega, take_three bs (3 * k) hk3, b64_snoc k _ _ (by rw [List.length_take]; omega), b64_three _ _ _ v (by rw [← B0.out, ← B1.out, ← B2.out]; exact HV.out)]
                exact hp
      · have hk2 : L - 3 * k = 0 ∨ L - 3 * k = 1 ∨ L - 3 * k = 2 := by omega
        have hltz : decide ((3 : Int) ≤ ((L - 3 * k : Nat) : Int)) = false := by simp; omega
        rcases hk2 with hr | hr | hr
        · rw [hr]
          have e1 : bs.take (3 * k) = bs := List.take_of_length_le (by rw [HLL.out]; omega)
          have HE1 := hid e1
          have HR := hid hr
          clear e1 hr hltz
          go_wp2_with fail
          first
            | go_end0
            | refine bodyPost_ret (results_none rfl _ _ _) rfl ?_
          refine ⟨rfl, ?_⟩
          rw [HE1.out] at HP
          exact HP.out
        · have e1 := HA1.out (by omega)
          have e2 := HA2.out (by omega)
          subst e1 e2
          have hk1 : 3 * k < bs.length := by rw [HLL.out]; omega
          obtain ⟨b0, h0⟩ : ∃ b : Nat, b = (bs[3 * k]'hk1).toNat := ⟨_, rfl⟩
          have s0 : wr.cell? ⟨sb, so + 3 * k, none⟩ = some (.int .u8 (b0 : Nat)) := by rw [h0]; exact HP.out.src HAP.out (by omega) (HS.out (3 * k) hk1)
          have l0 : b0 < 256 := by rw [h0]; exact UInt8.toNat_lt _
          have B0 := hid h0
          have hbs : bs = bs.take (3 * k) ++ [bs[3 * k]] := by
            have h1 := List.take_append_drop (3 * k) bs
            rw [List.drop_eq_getElem_cons hk1, List.drop_eq_nil_of_le (by rw [HLL.out]; omega)] at h1
            exact h1.symm
          have HBS := hid hbs
          clear h0 hbs
          have hbl : (b64 (bs.take (3 * k))).length = 4 * k := b64_mul k _ (by rw [List.length_take]; omega)
          have hdl : ∀ j, j < n → 4 * k ≤ j → ∃ x : Int, wr.cell? ⟨g, off + j, none⟩ = some (.int .u8 x) := fun j hj h4 => by
            obtain ⟨x, hx⟩ := HD.out j hj
            exact ⟨x, by rw [HP.out.rest (off + j) (Or.inr (by rw [hbl]; omega))]; exact hx⟩
          have hn4 : 4 * k + 4 ≤ n := by omega
          obtain ⟨x0, d0⟩ := hdl (4 * k) (by omega) (by omega)
          obtain ⟨x1, d1⟩ := hdl (4 * k + 1) (by omega) (by omega)
          obtain ⟨x2, d2⟩ := hdl (4 * k + 2) (by omega) (by omega)
          obtain ⟨x3, d3⟩ := hdl (4 * k + 3) (by omega) (by omega)
          have f0 : wr.frozen? ⟨g, off + 4 * k, none⟩ = false := (HP.out.free _).trans (HF.out (4 * k) (by omega))
          have f1 : wr.frozen? ⟨g, off + 4 * k + 1, none⟩ = false := (HP.out.free _).trans (HF.out (4 * k + 1) (by omega))
          have f2 : wr.frozen? ⟨g, off + 4 * k + 2, none⟩ = false := (HP.out.free _).trans (HF.out (4 * k + 2) (by omega))
          have f3 : wr.frozen? ⟨g, off + 4 * k + 3, none⟩ = false := (HP.out.free _).trans (HF.out (4 * k + 3) (by omega))
          have k9 : wr.cell? ⟨e, 320, none⟩ = some (.int .i32 61) := (HP.out.enc HE.out HEG.out).pad
          have hne1 : ¬ e = g := HEG.out
          have hne2 : ¬ g = e := fun h => HEG.out h.symm
          have HBL := hid hbl
          rw [← Nat.add_assoc] at d1 d2 d3
          clear hdl hbl
          have a0 := u64_and63 ((b0 : Int) * 65536 / 262144) (by omega) (by omega)
          have k0 : wr.cell? ⟨e, b0 * 65536 / 262144 % 64, none⟩ = some (.int .u8 ((b64c (b0 * 65536 / 262144 % 64)).toNat : Int)) := (HP.out.enc HE.out HEG.out).enc _ (by omega)
          have a1 := u64_and63 ((b0 : Int) * 65536 / 4096) (by omega) (by omega)
          have k1 : wr.cell? ⟨e, b0 * 65536 / 4096 % 64, none⟩ = some (.int .u8 ((b64c (b0 * 65536 / 4096 % 64)).toNat : Int)) := (HP.out.enc HE.out HEG.out).enc _ (by omega)
          rw [hr] at hltz ⊢
          clear hr c0
          go_wp2_with fail
          first
            | go_end0
            | refine bodyPost_ret (results_none rfl _ _ _) rfl ?_
          refine ⟨rfl, ?_⟩
          have hp := HP.out.four (b64c (b0 * 65536 / 262144 % 64)) (b64c (b0 * 65536 / 4096 % 64)) 61 61 (o := off + 4 * k) (by rw [HBL.out]) d0 d1 d2 d3
          rw [HBS.out, b64_snoc k _ _ (by rw [List.length_take]; omega), b64_one _ (b0 * 65536) (by rw [← B0.out])]
          exact hp
        · have e1 := HA1.out (by omega)
          have e2 := HA2.out (by omega)
          subst e1 e2
          have hk1 : 3 * k + 1 < bs.length := by rw [HLL.out]; omega
          obtain ⟨b0, h0⟩ : ∃ b : Nat, b = (bs[3 * k]'(by omega)).toNat := ⟨_, rfl⟩
          obtain ⟨b1, h1⟩ : ∃ b : Nat, b = (bs[3 * k + 1]'hk1).toNat := ⟨_, rfl⟩
          have s0 : wr.cell? ⟨sb, so + 3 * k, none⟩ = some (.int .u8 (b0 : Nat)) := by rw [h0]; exact HP.out.src HAP.out (by omega) (HS.out (3 * k) (by omega))
          have s1 : wr.cell? ⟨sb, so + 3 * k + 1, none⟩ = some (.int .u8 (b1 : Nat)) := by rw [h1]; exact HP.out.src HAP.out (by omega) (HS.out (3 * k + 1) hk1)
          have l0 : b0 < 256 := by rw [h0]; exact UInt8.toNat_lt _
          have l1 : b1 < 256 := by rw [h1]; exact UInt8.toNat_lt _
          have B0 := hid h0
          have B1 := hid h1
          have hbs : bs = bs.take (3 * k) ++ [bs[3 * k]'(by omega), bs[3 * k + 1]] := by
            have h1 := List.take_append_drop (3 * k) bs
            rw [List.drop_eq_getElem_cons (by omega : 3 * k < bs.length), List.drop_eq_getElem_cons hk1, List.drop_eq_nil_of_le (by rw [HLL.out]; omega)] at h1
            exact h1.symm
          have HBS := hid hbs
          clear h0 h1 hbs
          have hbl : (b64 (bs.take (3 * k))).length = 4 * k := b64_mul k _ (by rw [List.length_take]; omega)
          have hdl : ∀ j, j < n → 4 * k ≤ j → ∃ x : Int, wr.cell? ⟨g, off + j, none⟩ = some (.int .u8 x) := fun j hj h4 => by
            obtain ⟨x, hx⟩ := HD.out j hj
            exact ⟨x, by rw [HP.out.rest (off + j) (Or.inr (by rw [hbl]; omega))]; exact hx⟩
          have hn4 : 4 * k + 4 ≤ n := by omega
          obtain ⟨x0, d0⟩ := hdl (4 * k) (by omega) (by omega)
          obtain ⟨x1, d1⟩ := hdl (4 * k + 1) (by omega) (by omega)
          obtain ⟨x2, d2⟩ := hdl (4 * k + 2) (by omega) (by omega)
          obtain ⟨x3, d3⟩ := hdl (4 * k + 3) (by omega) (by omega)
          have f0 : wr.frozen? ⟨g, off + 4 * k, none⟩ = false := (HP.out.free _).trans (HF.out (4 * k) (by omega))
          have f1 : wr.frozen? ⟨g, off + 4 * k + 1, none⟩ = false := (HP.out.free _).trans (HF.out (4 * k + 1) (by omega))
          have f2 : wr.frozen? ⟨g, off + 4 * k + 2, none⟩ = false := (HP.out.free _).trans (HF.out (4 * k + 2) (by omega))
          have f3 : wr.frozen? ⟨g, off + 4 * k + 3, none⟩ = false := (HP.out.free _).trans (HF.out (4 * k + 3) (by omega))
          have k9 : wr.cell? ⟨e, 320, none⟩ = some (.int .i32 61) := (HP.out.enc HE.out HEG.out).pad
          have hne1 : ¬ e = g := HEG.out
          have hne2 : ¬ g = e := fun h => HEG.out h.symm
          have HBL := hid hbl
          rw [← Nat.add_assoc] at d1 d2 d3
          clear hdl hbl
          rw [hr] at hltz ⊢
          clear hr c0
          go_upto_region 22 with fail
          go_cut [8] (fun v8 wx => v8 = .int .u64 ((b0 * 65536 + b1 * 256 : Nat) : Int) ∧ ∃ q, wx = wr.drewN q)
          case first =>
            go_quiet (fail)
            go_wp2
            go_meet
            exact ⟨by rw [or2v b0 b1 l0 l1], _, rfl⟩
          case rest =>
            obtain ⟨rfl, q, rfl⟩ := hcut
            obtain ⟨v, hv⟩ : ∃ v : Nat, v = b0 * 65536 + b1 * 256 := ⟨_, rfl⟩
            rw [← hv]
            have hv2 : v < 16777216 := by omega
            have HV := hid hv
            clear hv s0 s1
            have a0 := u64_and63 ((v : Int) / 262144) (by omega) (by omega)
            have k0 : wr.cell? ⟨e, v / 262144 % 64, none⟩ = some (.int .u8 ((b64c (v / 262144 % 64)).toNat : Int)) := (HP.out.enc HE.out HEG.out).enc _ (by omega)
            have a1 := u64_and63 ((v : Int) / 4096) (by omega) (by omega)
            have k1 : wr.cell? ⟨e, v / 4096 % 64, none⟩ = some (.int .u8 ((b64c (v / 4096 % 64)).toNat : Int)) := (HP.out.enc HE.out HEG.out).enc _ (by omega)
            have a2 := u64_and63 ((v : Int) / 64) (by omega) (by omega)
            have k2 : wr.cell? ⟨e, v / 64 % 64, none⟩ = some (.int .u8 ((b64c (v / 64 % 64)).toNat : Int)) := (HP.out.enc HE.out HEG.out).enc _ (by omega)
            go_wp2_with fail
            first
              | go_end0
              | refine bodyPost_ret (results_none rfl _ _ _) rfl ?_
            refine ⟨rfl, ?_⟩
            have hp := (HP.out.drewN q).four (b64c (v / 262144 % 64)) (b64c (v / 4096 % 64)) (b64c (v / 64 % 64)) 61 (o := off + 4 * k) (by rw [HBL.out]) (x0 := .int .u8 x0) (x1 := .int .u8 x1) (x2 := .int .u8 x2) (x3 := .int .u8 x3) (by go_simp) (by go_simp) (by go_simp) (by go_simp)
            rw [HBS.out, b64_snoc k _ _ (by rw [List.length_take]; omega), b64_two _ _ v (by rw [← B0.out, ← B1.out]; exact HV.out)]
            exact hp
end Go.Proofs.YtbgckolcimlofaaGreatDoor
